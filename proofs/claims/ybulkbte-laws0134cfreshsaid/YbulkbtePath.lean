/- zzs0134cpath and Route.Passed by contracts. -/
import Derived.Test.YbulkbteBase
namespace Go.Proofs.Ybulkbte
open Go.RowKit Go.WideShapes

theorem Yba.info57 : (Yba.prog.info? 57).map (fun i => (i.zero, i.size, i.bytes)) = some (some (.int .i32 0), 1, 4) := by kernel_rfl

/-- The numbers as cells. -/
def i32s (zs : List Int) : List Value := zs.map (Value.int .i32)

theorem fill_step (zs : List Int) (l : List Value) (k : Nat) (hk : k < zs.length) (hl : k < l.length) :
    (i32s (zs.take k) ++ l.drop k).set k (.int .i32 (zs.getD k 0)) = i32s (zs.take (k + 1)) ++ l.drop (k + 1) := by
  unfold i32s
  have h1 : (zs.take k).length = k := by simp; omega
  rw [List.set_append_right _ _ (by simp; omega)]
  simp only [List.length_map, h1, Nat.sub_self]
  rw [List.take_succ_eq_append_getElem hk, List.drop_eq_getElem_cons hl, List.set_cons_zero, List.map_append, List.append_assoc]
  simp only [List.map_cons, List.map_nil, List.cons_append, List.nil_append, List.getD_eq_getElem?_getD, List.getElem?_eq_getElem hk, Option.getD_some]

set_option maxHeartbeats 1000000 in
set_option maxRecDepth 100000 in
theorem cpath_row (b off len cap : Nat) (zs : List Int) (w : World) (hz : len ≤ zs.length) (hb : b < w.heap.size) (hc : ∀ i, i < len → w.cell? ⟨b, off + i, none⟩ = some (.int .i32 (zs.getD i 0))) (hn : len ≤ 1024) :
    Calls Yba.prog 14 #[.slice (some ⟨b, off, none⟩) len cap] w fun e w' => e = .returned (.slice (some ⟨w.heap.size, 0, none⟩) len len) ∧ Blk w' w.heap.size 57 (i32s (zs.take len)) ∧ Below w.heap.size w w' := by
  obtain ⟨i0, hi, hz0, hz1, hz2⟩ := info_parts Yba.info57
  have HC := hide hc
  clear hc
  have hnil : ∀ wx, (binOp .eql 50 (.slice (some ⟨b, off, none⟩) len cap) (.slice none 0 0)).run Yba.prog wx = .ok (.bool false) wx := fun wx => Lib.run_eql_slice_nil (P := Yba.prog) wx 50 21 _ len cap 0 0 Yba.underlying50
  go_enter Yba.func14, Yba.ntmps14
  go_wp2_with (at_make; refine wpList_make_full _ rfl (.tmp 8) (.tmp 8) 52 rfl w.heap.size 57 i0 (.int .i32 0) 1 Yba.underlying52 hi hz0 hz1 .i64 .i64 _ _ len rfl rfl rfl rfl (by rw [hz2]; omega) (by unfold maxLen; omega) (Nat.le_refl _) ?_; intro w1 hown hgrow; have HO := hide hown; have HG := hide hgrow; clear hown hgrow)
  obtain ⟨l, hl, hblk⟩ : ∃ l : List Value, l.length = len ∧ Blk w1 w.heap.size 57 l := ⟨_, by have := HO.out.1; simpa using this, Blk.ofOwns HO.out⟩
  have hbel : Below w.heap.size w w1 := (Below.refl _ _).grown HG.out (Nat.le_refl _) (fun k hk => by cases hk)
  clear HO HG hz0 hz1 hz2 hi
  go_loopw [4] (fun i wr => ∃ k : Nat, k ≤ len ∧ i = .int .i64 k ∧ Blk wr w.heap.size 57 (i32s (zs.take k) ++ l.drop k) ∧ Below w.heap.size w wr) (fun i _ => len - (intOf i).toNat)
  case atStart => exact ⟨0, Nat.zero_le _, rfl, by simpa [i32s] using hblk, hbel⟩
  case round =>
    obtain ⟨k, hk, rfl, hblk2, hbel2⟩ := hrel
    by_cases hlt : k < len
    · have hck : wr.cell? ⟨b, off + k, none⟩ = some (.int .i32 (zs.getD k 0)) := by rw [hbel2.cell hb]; exact HC.out k hlt
      have hlen : (i32s (zs.take k) ++ l.drop k).length = len := by simp [i32s]; omega
      obtain ⟨v, hv⟩ : ∃ v, wr.cell? ⟨w.heap.size, k, none⟩ = some v := ⟨_, hblk2.cell (by omega)⟩
      have hfz := hblk2.frozen k
      have HB := hide (hblk2.set k (.int .i32 (zs.getD k 0)))
      have HL := hide (hbel2.setCell (p := ⟨w.heap.size, k, none⟩) (Nat.le_refl _) (.int .i32 (zs.getD k 0)))
      obtain ⟨z, hzz⟩ : ∃ z, z = zs.getD k 0 := ⟨_, rfl⟩
      rw [fill_step zs l k (by omega) (by omega)] at HB
      rw [← hzz] at HB HL hck
      clear hblk2 hbel2 hlen hbel hblk hzz
      go_wp2
      go_roundw
      case rel => exact ⟨k + 1, by omega, by go_num, HB.out, HL.out⟩
      case measure => simp [intOf]; omega
    · obtain rfl : k = len := by omega
      have HB : Hid (Blk wr w.heap.size 57 (i32s (zs.take k))) := by rw [List.drop_eq_nil_of_le (by omega), List.append_nil] at hblk2; exact hblk2
      have HL := hide hbel2
      clear hblk2 hbel2 hbel hblk
      go_wp2
      go_ret
      exact ⟨rfl, HB.out, HL.out⟩
set_option maxHeartbeats 1000000 in
set_option maxRecDepth 100000 in
theorem cpath_zero (x : Addr) (cap : Nat) (w : World) :
    Calls Yba.prog 14 #[.slice (some x) 0 cap] w fun e w' => e = .returned (.slice (some ⟨w.heap.size, 0, none⟩) 0 0) ∧ Blk w' w.heap.size 57 [] ∧ Below w.heap.size w w' := by
  obtain ⟨i0, hi, hz0, hz1, hz2⟩ := info_parts Yba.info57
  have hnil : ∀ wx, (binOp .eql 50 (.slice (some x) 0 cap) (.slice none 0 0)).run Yba.prog wx = .ok (.bool false) wx := fun wx => Lib.run_eql_slice_nil (P := Yba.prog) wx 50 21 _ 0 cap 0 0 Yba.underlying50
  go_enter Yba.func14, Yba.ntmps14
  go_wp2_with (at_make; refine wpList_make_full _ rfl (.tmp 8) (.tmp 8) 52 rfl w.heap.size 57 i0 (.int .i32 0) 1 Yba.underlying52 hi hz0 hz1 .i64 .i64 _ _ 0 rfl rfl rfl rfl (by omega) (by decide) (Nat.le_refl _) ?_; intro w1 hown hgrow; have HO := hide hown; have HG := hide hgrow; clear hown hgrow)
  have HB : Hid (Blk w1 w.heap.size 57 []) := by
    obtain ⟨l, hl, hb⟩ : ∃ l : List Value, l.length = 0 ∧ Blk w1 w.heap.size 57 l := ⟨_, by have := HO.out.1; simpa using this, Blk.ofOwns HO.out⟩
    rw [List.eq_nil_of_length_eq_zero hl] at hb
    exact hb
  have HL := hide ((Below.refl w.heap.size w).grown HG.out (Nat.le_refl _) (fun k hk => by cases hk))
  clear HO HG hz0 hz1 hz2 hi
  refine wp_loop_rounds 1 ?_
  rw [rounds_succ]
  go_wp2
  go_ret
  exact ⟨rfl, HB.out, HL.out⟩

set_option maxHeartbeats 1000000 in
theorem cpath_nil (w : World) : Calls Yba.prog 14 #[.slice none 0 0] w fun e w' => e = .returned (.slice none 0 0) ∧ w' = w := by
  have hnil : ∀ wx, (binOp .eql 50 (.slice none 0 0) (.slice none 0 0)).run Yba.prog wx = .ok (.bool true) wx := fun wx => Lib.run_eql_slice_nil (P := Yba.prog) wx 50 21 _ 0 0 0 0 Yba.underlying50
  go_enter Yba.func14, Yba.ntmps14
  go_wp2
  go_ret
  exact ⟨rfl, rfl⟩

/-- zzs0134cpath: nil at nil; else a new block with the same numbers. -/
theorem cpath_any (a : Option Addr) (len cap : Nat) (zs : List Int) (w : World) (h0 : IsRow .i32 w a len cap zs) (hn : len ≤ 1024) :
    Calls Yba.prog 14 #[.slice a len cap] w fun e w' => (a = none ∧ e = .returned (.slice none 0 0) ∧ len = 0 ∧ Below w.heap.size w w') ∨
      (a.isSome = true ∧ e = .returned (.slice (some ⟨w.heap.size, 0, none⟩) len len) ∧ Blk w' w.heap.size 57 (i32s (zs.take len)) ∧ Below w.heap.size w w') := by
  obtain ⟨hz, hnil, hc⟩ := h0.at
  cases a with
  | none =>
    obtain ⟨rfl, rfl⟩ := hnil rfl
    exact (cpath_nil w).mono fun e w' ⟨he, hw⟩ => .inl ⟨rfl, he, rfl, by rw [hw]; exact Below.refl _ _⟩
  | some x =>
    by_cases hpos : 0 < len
    · obtain ⟨b, off, hx, hb, hcc⟩ := hc hpos
      cases hx
      exact (cpath_row b off len cap zs w hz hb hcc hn).mono fun e w' h => .inr ⟨rfl, h⟩
    · obtain rfl : len = 0 := by omega
      exact (cpath_zero x cap w).mono fun e w' h => .inr ⟨rfl, by simpa [i32s] using h⟩

/-- The same in one form. -/
theorem cpath_one (a : Option Addr) (len cap : Nat) (zs : List Int) (w : World) (h0 : IsRow .i32 w a len cap zs) (hn : len ≤ 1024) :
    Calls Yba.prog 14 #[.slice a len cap] w fun e w' => ∃ ra P, e = .returned (.slice ra len len) ∧ ra.isNone = a.isNone ∧ w.heap.size ≤ P ∧ (len = 0 ∨ (ra = some ⟨P, 0, none⟩ ∧ Blk w' P 57 (i32s (zs.take len)))) ∧ Below w.heap.size w w' := by
  refine (cpath_any a len cap zs w h0 hn).mono fun e w' h => ?_
  rcases h with ⟨ha, he, hl, hb⟩ | ⟨ha, he, hk, hb⟩
  · subst hl
    exact ⟨none, w.heap.size, he, by rw [ha], Nat.le_refl _, .inl rfl, hb⟩
  · exact ⟨some ⟨w.heap.size, 0, none⟩, w.heap.size, he, by cases a <;> simp_all, Nat.le_refl _, .inr ⟨rfl, hk⟩, hb⟩

set_option maxHeartbeats 1000000 in
set_option maxRecDepth 100000 in
theorem passed_int (a : Option Addr) (n P : Nat) (xs : List Value) (st tv hst : Int) (w : World) (hn : n ≤ 1024) (hl : xs.length = n) (h1 : ∀ v ∈ xs, v.oneCell' = true) (hs : n = 0 ∨ (a = some ⟨P, 0, none⟩ ∧ Blk w P 57 xs)) :
    Calls Yba.prog 15 #[.agg #[.slice a n n, .int .i64 st], .agg #[.int .i32 tv, .int .i64 hst]] w fun e w' =>
      ∃ g, e = .returned (.agg #[.slice (some ⟨g, 0, none⟩) (n + 1) (n + 1), .int .i64 hst]) ∧ w.heap.size ≤ g ∧ Blk w' g 57 (.int .i32 tv :: xs) ∧ Below w.heap.size w w' := by
  obtain ⟨i0, hi, hz0, hz1, hz2⟩ := info_parts Yba.info57
  have HS := hide hs
  clear hs
  go_enter Yba.func15, Yba.ntmps15
  go_upto_region 3 with (at_make; refine wpList_make_full _ rfl (.tmp 9) (.tmp 9) 52 rfl w.heap.size 57 i0 (.int .i32 0) 1 Yba.underlying52 hi hz0 hz1 .i64 .i64 _ _ (n + 1) rfl rfl (by omega) (by omega) (by rw [hz2]; omega) (by unfold maxLen; omega) (by simp; omega) ?_; intro w1 hown hgrow; obtain ⟨l, hll, hblk⟩ : ∃ l : List Value, l.length = n + 1 ∧ Blk w1 (w.heap.size + 1 + 1 + 1) 57 l := ⟨_, by have := hown.1; rw [this]; omega, Blk.ofOwns (by simpa using hown)⟩; have hbel := (Below.refl _ _).grown hgrow (Nat.le_refl _) (fun k hk => by cases hk); obtain ⟨hc, hf⟩ := bcell hbel; obtain ⟨v0, hv0⟩ : ∃ v, w1.cell? ⟨w.heap.size + 1 + 1 + 1, 0, none⟩ = some v := ⟨_, hblk.cell (by omega)⟩; have hfz := hblk.frozen 0; have HO := hide hblk; have HG := hide hbel; clear hown hgrow hblk hbel)
  have hbel : Below w.heap.size w w1 := ((((Below.refl _ w).alloc (Nat.le_refl _) _).alloc (by simp) _).alloc (by simp; omega) _).trans (HG.out.mono (by simp; omega))
  have HS2 : Hid (n = 0 ∨ (a = some ⟨P, 0, none⟩ ∧ Blk (w1.setCell ⟨w.heap.size + 1 + 1 + 1, 0, none⟩ (.int .i32 tv)).drew P 57 xs)) := by
    rcases HS.out with h | ⟨h, hb⟩
    · exact .inl h
    · have hlt := hb.lt
      exact .inr ⟨h, (hb.below hbel hlt).other (p := ⟨w.heap.size + 1 + 1 + 1, 0, none⟩) _ (by show P ≠ w.heap.size + 1 + 1 + 1; omega)⟩
  have HB2 := hide ((hbel.setCell (p := ⟨w.heap.size + 1 + 1 + 1, 0, none⟩) (by show w.heap.size ≤ w.heap.size + 1 + 1 + 1; omega) (.int .i32 tv)).drew)
  have HO2 := hide ((HO.out.set 0 (.int .i32 tv)).drew)
  have h1n : (1 : Int) ≤ (n : Int) + 1 := by omega
  have HPOS : Hid (0 < xs.length → (if n = 0 then some (⟨w.heap.size + 1 + 1 + 1, 0, none⟩ : Addr) else some ⟨w.heap.size + 1 + 1 + 1, 1, none⟩) = some ⟨w.heap.size + 1 + 1 + 1, 1, none⟩ ∧
      ∃ ad, a = some ad ∧ ∀ j v, xs[j]? = some v → (w1.setCell ⟨w.heap.size + 1 + 1 + 1, 0, none⟩ (.int .i32 tv)).drew.cell? (ad.add j) = some v) := by
    intro hp
    rcases HS2.out with h | ⟨h, hb⟩
    · omega
    · exact ⟨if_neg (by omega), _, h, hb.src⟩
  have HB3 : Hid (Below (w.heap.size + 1 + 1 + 1) w1 (w1.setCell ⟨w.heap.size + 1 + 1 + 1, 0, none⟩ (.int .i32 tv)).drew) := by
    exact hide (((Below.refl (w.heap.size + 1 + 1 + 1) w1).setCell (p := ⟨w.heap.size + 1 + 1 + 1, 0, none⟩) (Nat.le_refl _) (.int .i32 tv)).drew)
  have HFIN : Hid (splice (l.set 0 (.int .i32 tv)) 1 xs = .int .i32 tv :: xs) := by
    cases l with
    | nil => simp at hll
    | cons c r =>
      simp at hll
      simp [Hid, splice]
      omega
  have HBE := hide hbel
  have HBB : Hid (Blk w1 (w.heap.size + 1) 59 [.int .i32 tv, .int .i64 hst] ∧ Blk w1 (w.heap.size + 1 + 1) 55 [.slice none 0 0, .int .i64 0]) := by
    have e1 := (Blk.new (w.alloc (.cells #[.slice a n n, .int .i64 st] 55)) 59 [.int .i32 tv, .int .i64 hst]).alloc (.cells #[.slice none 0 0, .int .i64 0] 55)
    have e2 := Blk.new ((w.alloc (.cells #[.slice a n n, .int .i64 st] 55)).alloc (.cells #[.int .i32 tv, .int .i64 hst] 59)) 55 [.slice none 0 0, .int .i64 0]
    rw [show (w.alloc (.cells #[.slice a n n, .int .i64 st] 55)).heap.size = w.heap.size + 1 by simp] at e1
    rw [show ((w.alloc (.cells #[.slice a n n, .int .i64 st] 55)).alloc (.cells #[.int .i32 tv, .int .i64 hst] 59)).heap.size = w.heap.size + 1 + 1 by simp] at e2
    exact ⟨e1.below HG.out (by simp), e2.below HG.out (by simp)⟩
  clear HS HS2 HB2 hbel HG HO hv0 hfz v0
  go_cut [19] (fun v19 wc => Blk wc (w.heap.size + 1 + 1 + 1) 57 (.int .i32 tv :: xs) ∧ Below (w.heap.size + 1 + 1 + 1) w1 wc)
  case first =>
    go_region_law (refine step_copy_splice rfl (.tmp 16) (.tmp 18) 52 52 rfl 57 Yba.underlying52 (by kernel_rfl) _ _ _ _ _ _ rfl rfl (w.heap.size + 1 + 1 + 1) 1 (l.set 0 (.int .i32 tv)) 57 HO2.out xs (by simp [hl]) HPOS.out (by simp; omega) h1 (w.heap.size + 1 + 1 + 1) w1 HB3.out (Nat.le_refl _) ?_; intro w2 hb2 hl2)
    all_goals (clear HPOS; generalize (if n = 0 then some (⟨w.heap.size + 1 + 1 + 1, 0, none⟩ : Addr) else some ⟨w.heap.size + 1 + 1 + 1, 1, none⟩) = dp; go_wp2; go_meet; go_light)
    all_goals exact ⟨by have := hb2.out; rw [HFIN.out] at this; exact this, hl2⟩
  case rest =>
    obtain ⟨hbl, hbe⟩ := hcut
    have hbel : Below w.heap.size w wc := HBE.out.trans (hbe.mono (by omega))
    have h59 : Blk wc (w.heap.size + 1) 59 [.int .i32 tv, .int .i64 hst] := HBB.out.1.below hbe (by omega)
    have h55 : Blk wc (w.heap.size + 1 + 1) 55 [.slice none 0 0, .int .i64 0] := HBB.out.2.below hbe (by omega)
    have c1 : wc.cell? ⟨w.heap.size + 1, 1, none⟩ = some (.int .i64 hst) := h59.cell (i := 1) (by simp)
    have c2 : wc.cell? ⟨w.heap.size + 1 + 1, 0, none⟩ = some (.slice none 0 0) := h55.cell (i := 0) (by simp)
    have c3 : wc.cell? ⟨w.heap.size + 1 + 1, 1, none⟩ = some (.int .i64 0) := h55.cell (i := 1) (by simp)
    have f2 := h55.frozen 0
    have f3 := h55.frozen 1
    have HBL := hide hbl
    have HX := hide hbel
    have HY := hide h55
    clear hbl hbe hbel h59 h55 HBE HBB HFIN HPOS HO2 HB3
    go_wp2
    refine bodyPost_ret (v := .agg #[.slice (some ⟨w.heap.size + 1 + 1 + 1, 0, none⟩) (n + 1) (n + 1), .int .i64 hst]) (by simp [results, Yba.results15, go_sem, c2, c3]) rfl ⟨w.heap.size + 1 + 1 + 1, rfl, by omega, ?_, ?_⟩
    · exact (HBL.out.other (p := ⟨w.heap.size + 1 + 1, 0, none⟩) _ (by show w.heap.size + 1 + 1 + 1 ≠ w.heap.size + 1 + 1; omega)).other (p := ⟨w.heap.size + 1 + 1, 1, none⟩) _ (by show w.heap.size + 1 + 1 + 1 ≠ w.heap.size + 1 + 1; omega)
    · exact (HX.out.setCell (p := ⟨w.heap.size + 1 + 1, 0, none⟩) (by show w.heap.size ≤ w.heap.size + 1 + 1; omega) _).setCell (p := ⟨w.heap.size + 1 + 1, 1, none⟩) (by show w.heap.size ≤ w.heap.size + 1 + 1; omega) _

set_option maxHeartbeats 1000000 in
set_option maxRecDepth 100000 in
theorem passed_str (a : Option Addr) (n P : Nat) (xs : List Value) (tv : Int) (st hst : ByteArray) (w : World) (hn : n ≤ 1024) (hl : xs.length = n) (h1 : ∀ v ∈ xs, v.oneCell' = true) (hs : n = 0 ∨ (a = some ⟨P, 0, none⟩ ∧ Blk w P 57 xs)) :
    Calls Yba.prog 16 #[.agg #[.slice a n n, .string st], .agg #[.int .i32 tv, .string hst]] w fun e w' =>
      ∃ g, e = .returned (.agg #[.slice (some ⟨g, 0, none⟩) (n + 1) (n + 1), .string hst]) ∧ w.heap.size ≤ g ∧ Blk w' g 57 (.int .i32 tv :: xs) ∧ Below w.heap.size w w' := by
  obtain ⟨i0, hi, hz0, hz1, hz2⟩ := info_parts Yba.info57
  have HS := hide hs
  clear hs
  go_enter Yba.func16, Yba.ntmps16
  go_upto_region 3 with (at_make; refine wpList_make_full _ rfl (.tmp 9) (.tmp 9) 52 rfl w.heap.size 57 i0 (.int .i32 0) 1 Yba.underlying52 hi hz0 hz1 .i64 .i64 _ _ (n + 1) rfl rfl (by omega) (by omega) (by rw [hz2]; omega) (by unfold maxLen; omega) (by simp; omega) ?_; intro w1 hown hgrow; obtain ⟨l, hll, hblk⟩ : ∃ l : List Value, l.length = n + 1 ∧ Blk w1 (w.heap.size + 1 + 1 + 1) 57 l := ⟨_, by have := hown.1; rw [this]; omega, Blk.ofOwns (by simpa using hown)⟩; have hbel := (Below.refl _ _).grown hgrow (Nat.le_refl _) (fun k hk => by cases hk); obtain ⟨hc, hf⟩ := bcell hbel; obtain ⟨v0, hv0⟩ : ∃ v, w1.cell? ⟨w.heap.size + 1 + 1 + 1, 0, none⟩ = some v := ⟨_, hblk.cell (by omega)⟩; have hfz := hblk.frozen 0; have HO := hide hblk; have HG := hide hbel; clear hown hgrow hblk hbel)
  have hbel : Below w.heap.size w w1 := ((((Below.refl _ w).alloc (Nat.le_refl _) _).alloc (by simp) _).alloc (by simp; omega) _).trans (HG.out.mono (by simp; omega))
  have HS2 : Hid (n = 0 ∨ (a = some ⟨P, 0, none⟩ ∧ Blk (w1.setCell ⟨w.heap.size + 1 + 1 + 1, 0, none⟩ (.int .i32 tv)).drew P 57 xs)) := by
    rcases HS.out with h | ⟨h, hb⟩
    · exact .inl h
    · have hlt := hb.lt
      exact .inr ⟨h, (hb.below hbel hlt).other (p := ⟨w.heap.size + 1 + 1 + 1, 0, none⟩) _ (by show P ≠ w.heap.size + 1 + 1 + 1; omega)⟩
  have HB2 := hide ((hbel.setCell (p := ⟨w.heap.size + 1 + 1 + 1, 0, none⟩) (by show w.heap.size ≤ w.heap.size + 1 + 1 + 1; omega) (.int .i32 tv)).drew)
  have HO2 := hide ((HO.out.set 0 (.int .i32 tv)).drew)
  have h1n : (1 : Int) ≤ (n : Int) + 1 := by omega
  have HPOS : Hid (0 < xs.length → (if n = 0 then some (⟨w.heap.size + 1 + 1 + 1, 0, none⟩ : Addr) else some ⟨w.heap.size + 1 + 1 + 1, 1, none⟩) = some ⟨w.heap.size + 1 + 1 + 1, 1, none⟩ ∧
      ∃ ad, a = some ad ∧ ∀ j v, xs[j]? = some v → (w1.setCell ⟨w.heap.size + 1 + 1 + 1, 0, none⟩ (.int .i32 tv)).drew.cell? (ad.add j) = some v) := by
    intro hp
    rcases HS2.out with h | ⟨h, hb⟩
    · omega
    · exact ⟨if_neg (by omega), _, h, hb.src⟩
  have HB3 : Hid (Below (w.heap.size + 1 + 1 + 1) w1 (w1.setCell ⟨w.heap.size + 1 + 1 + 1, 0, none⟩ (.int .i32 tv)).drew) := by
    exact hide (((Below.refl (w.heap.size + 1 + 1 + 1) w1).setCell (p := ⟨w.heap.size + 1 + 1 + 1, 0, none⟩) (Nat.le_refl _) (.int .i32 tv)).drew)
  have HFIN : Hid (splice (l.set 0 (.int .i32 tv)) 1 xs = .int .i32 tv :: xs) := by
    cases l with
    | nil => simp at hll
    | cons c r =>
      simp at hll
      simp [Hid, splice]
      omega
  have HBE := hide hbel
  have HBB : Hid (Blk w1 (w.heap.size + 1) 65 [.int .i32 tv, .string hst] ∧ Blk w1 (w.heap.size + 1 + 1) 62 [.slice none 0 0, .string ByteArray.empty]) := by
    have e1 := (Blk.new (w.alloc (.cells #[.slice a n n, .string st] 62)) 65 [.int .i32 tv, .string hst]).alloc (.cells #[.slice none 0 0, .string ByteArray.empty] 62)
    have e2 := Blk.new ((w.alloc (.cells #[.slice a n n, .string st] 62)).alloc (.cells #[.int .i32 tv, .string hst] 65)) 62 [.slice none 0 0, .string ByteArray.empty]
    rw [show (w.alloc (.cells #[.slice a n n, .string st] 62)).heap.size = w.heap.size + 1 by simp] at e1
    rw [show ((w.alloc (.cells #[.slice a n n, .string st] 62)).alloc (.cells #[.int .i32 tv, .string hst] 65)).heap.size = w.heap.size + 1 + 1 by simp] at e2
    exact ⟨e1.below HG.out (by simp), e2.below HG.out (by simp)⟩
  clear HS HS2 HB2 hbel HG HO hv0 hfz v0
  go_cut [19] (fun v19 wc => Blk wc (w.heap.size + 1 + 1 + 1) 57 (.int .i32 tv :: xs) ∧ Below (w.heap.size + 1 + 1 + 1) w1 wc)
  case first =>
    go_region_law (refine step_copy_splice rfl (.tmp 16) (.tmp 18) 52 52 rfl 57 Yba.underlying52 (by kernel_rfl) _ _ _ _ _ _ rfl rfl (w.heap.size + 1 + 1 + 1) 1 (l.set 0 (.int .i32 tv)) 57 HO2.out xs (by simp [hl]) HPOS.out (by simp; omega) h1 (w.heap.size + 1 + 1 + 1) w1 HB3.out (Nat.le_refl _) ?_; intro w2 hb2 hl2)
    all_goals (clear HPOS; generalize (if n = 0 then some (⟨w.heap.size + 1 + 1 + 1, 0, none⟩ : Addr) else some ⟨w.heap.size + 1 + 1 + 1, 1, none⟩) = dp; go_wp2; go_meet; go_light)
    all_goals exact ⟨by have := hb2.out; rw [HFIN.out] at this; exact this, hl2⟩
  case rest =>
    obtain ⟨hbl, hbe⟩ := hcut
    have hbel : Below w.heap.size w wc := HBE.out.trans (hbe.mono (by omega))
    have h59 : Blk wc (w.heap.size + 1) 65 [.int .i32 tv, .string hst] := HBB.out.1.below hbe (by omega)
    have h55 : Blk wc (w.heap.size + 1 + 1) 62 [.slice none 0 0, .string ByteArray.empty] := HBB.out.2.below hbe (by omega)
    have c1 : wc.cell? ⟨w.heap.size + 1, 1, none⟩ = some (.string hst) := h59.cell (i := 1) (by simp)
    have c2 : wc.cell? ⟨w.heap.size + 1 + 1, 0, none⟩ = some (.slice none 0 0) := h55.cell (i := 0) (by simp)
    have c3 : wc.cell? ⟨w.heap.size + 1 + 1, 1, none⟩ = some (.string ByteArray.empty) := h55.cell (i := 1) (by simp)
    have f2 := h55.frozen 0
    have f3 := h55.frozen 1
    have HBL := hide hbl
    have HX := hide hbel
    have HY := hide h55
    clear hbl hbe hbel h59 h55 HBE HBB HFIN HPOS HO2 HB3
    go_wp2
    refine bodyPost_ret (v := .agg #[.slice (some ⟨w.heap.size + 1 + 1 + 1, 0, none⟩) (n + 1) (n + 1), .string hst]) (by simp [results, Yba.results16, go_sem, c2, c3]) rfl ⟨w.heap.size + 1 + 1 + 1, rfl, by omega, ?_, ?_⟩
    · exact (HBL.out.other (p := ⟨w.heap.size + 1 + 1, 0, none⟩) _ (by show w.heap.size + 1 + 1 + 1 ≠ w.heap.size + 1 + 1; omega)).other (p := ⟨w.heap.size + 1 + 1, 1, none⟩) _ (by show w.heap.size + 1 + 1 + 1 ≠ w.heap.size + 1 + 1; omega)
    · exact (HX.out.setCell (p := ⟨w.heap.size + 1 + 1, 0, none⟩) (by show w.heap.size ≤ w.heap.size + 1 + 1; omega) _).setCell (p := ⟨w.heap.size + 1 + 1, 1, none⟩) (by show w.heap.size ≤ w.heap.size + 1 + 1; omega) _
end Go.Proofs.Ybulkbte
