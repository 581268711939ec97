/- LawS0134CFresh: the walks and the row. -/
import Derived.Test.YbulkbtePath
import Derived.ProofKit
import Derived.OpenShut
import Derived.ShutString
import Derived.ChangeOld
namespace Go.Proofs.Ybulkbte.Fresh
open Go.RowKit Go.WideShapes

theorem i32s_one (zs : List Int) : ∀ v ∈ i32s zs, v.oneCell' = true := by
  intro v hv
  unfold i32s at hv
  simp at hv
  obtain ⟨z, _, rfl⟩ := hv
  rfl

theorem i32s_at (zs : List Int) (n k : Nat) (hk : k < n) (hz : n ≤ zs.length) : ∃ h : k < (i32s (zs.take n)).length, (i32s (zs.take n))[k] = .int .i32 (zs.getD k 0) := by
  unfold i32s
  refine ⟨by simp; omega, ?_⟩
  simp [List.getElem?_eq_getElem (show k < zs.length by omega)]

/-- got's row behind k rounds of the first loop. -/
def flipped (L : List Int) (k : Nat) : List Int := (L.take k).map (fun x => bits .xor .i32 x 1) ++ L.drop k

theorem flipped_zero (L : List Int) : flipped L 0 = L := by simp [flipped]
theorem flipped_length (L : List Int) (k : Nat) : (flipped L k).length = L.length := by simp [flipped]; omega
theorem flipped_at (L : List Int) (k : Nat) (hk : k < L.length) : (flipped L k)[k]'(by rw [flipped_length]; exact hk) = L[k] := by
  unfold flipped
  have h1 : min k L.length = k := by omega
  rw [List.getElem_append_right (by simp; omega)]
  simp [h1]
theorem flipped_succ (L : List Int) (k : Nat) (hk : k < L.length) : (flipped L k).set k (bits .xor .i32 L[k] 1) = flipped L (k + 1) := by
  unfold flipped
  have h1 : (L.take k).length = k := by simp; omega
  rw [List.set_append_right _ _ (by simp; omega)]
  simp only [List.length_map, h1, Nat.sub_self]
  rw [List.take_succ_eq_append_getElem hk, List.drop_eq_getElem_cons hk, List.set_cons_zero, List.map_append, List.append_assoc]
  simp only [List.map_cons, List.map_nil, List.cons_append, List.nil_append]
theorem flipped_done (L : List Int) (k j : Nat) (hk : k = L.length) (hj : j < L.length) : (flipped L k)[j]'(by rw [flipped_length]; exact hj) = bits .xor .i32 L[j] 1 := by
  subst hk
  simp [flipped]
theorem i32s_set (l : List Int) (k : Nat) (v : Int) : (i32s l).set k (.int .i32 v) = i32s (l.set k v) := by simp [i32s, List.map_set]

/-- What stays while got's row is written. -/
def Kept (w wr : World) (R G P g len : Nat) (ra : Option Addr) (zs : List Int) (rst hst : ByteArray) : Prop :=
  Blk wr R 62 [.slice ra len len, .string rst] ∧ Blk wr G 62 [.slice (some ⟨g, 0, none⟩) (len + 1) (len + 1), .string hst] ∧ (len = 0 ∨ Blk wr P 57 (i32s (zs.take len))) ∧ Below w.heap.size w wr

theorem Kept.set {w wr : World} {R G P g len : Nat} {ra : Option Addr} {zs : List Int} {rst hst : ByteArray} (h : Kept w wr R G P g len ra zs rst hst) (hR : R ≠ g) (hG : G ≠ g) (hP : P ≠ g) (hg : w.heap.size ≤ g) (k : Nat) (v : Value) :
    Kept w (wr.setCell ⟨g, k, none⟩ v).drew R G P g len ra zs rst hst :=
  ⟨(h.1.other (p := ⟨g, k, none⟩) v hR).drew, (h.2.1.other (p := ⟨g, k, none⟩) v hG).drew, h.2.2.1.elim .inl (fun hb => .inr ((hb.other (p := ⟨g, k, none⟩) v hP).drew)), (h.2.2.2.setCell (p := ⟨g, k, none⟩) hg v).drew⟩

set_option maxHeartbeats 2000000 in
set_option maxRecDepth 100000 in
theorem fresh_pos (b off len cap : Nat) (zs : List Int) (tv : Int) (rst hst : ByteArray) (w : World) (h0 : IsRow .i32 w (some ⟨b, off, none⟩) len cap zs) (hz : len ≤ zs.length) (hpos : 0 < len) (hn : len ≤ 1024)
    (hb : b < w.heap.size) (hc : ∀ i, i < len → w.cell? ⟨b, off + i, none⟩ = some (.int .i32 (zs.getD i 0))) :
    Calls Yba.prog 6 #[.slice (some ⟨b, off, none⟩) len cap, .int .i32 tv, .string rst, .string hst] w fun e w' => e = .returned (.bool true) ∧ Below w.heap.size w w' := by
  have hng : ¬ (1024 : Int) < (len : Int) := by omega
  have HP := hide (cpath_one (some ⟨b, off, none⟩) len cap zs w h0 hn)
  have HC := hide hc
  clear hc h0
  go_enter Yba.func6, Yba.ntmps6
  go_wp2_with fail
  refine HP.out.mono ?_
  rintro e w1 ⟨ra, P, rfl, hra, hPge, hP, hb1⟩
  rcases hP with h | ⟨hra2, hblk⟩
  · exact absurd h (by omega)
  rw [hra2]
  have HQ := hide (passed_str (some ⟨P, 0, none⟩) len P (i32s (zs.take len)) tv rst hst (w1.alloc (.cells #[.slice (some ⟨P, 0, none⟩) len len, .string rst] 62)) hn (by simp [i32s]; omega) (i32s_one _) (.inr ⟨rfl, hblk.alloc _⟩))
  have HB1 := hide hb1
  have HPP := hide hblk
  have hPlt := hblk.lt
  clear hb1 hblk hra hra2 HP
  go_wp2_with fail
  refine HQ.out.mono ?_
  rintro e w2 ⟨g, rfl, hg, hbg, hb2⟩
  have hgs : w1.heap.size + 1 ≤ g := by simpa using hg
  have hglt := hbg.lt
  have hws : w.heap.size ≤ w1.heap.size := HB1.out.size
  have hkept : Kept w (w2.alloc (.cells #[.slice (some ⟨g, 0, none⟩) (len + 1) (len + 1), .string hst] 62)) w1.heap.size w2.heap.size P g len (some ⟨P, 0, none⟩) zs rst hst := by
    refine ⟨((Blk.new w1 62 [.slice (some ⟨P, 0, none⟩) len len, .string rst]).below hb2 (by simp)).alloc _, Blk.new w2 62 [.slice (some ⟨g, 0, none⟩) (len + 1) (len + 1), .string hst], .inr (((HPP.out.alloc _).below hb2 (by simp; omega)).alloc _), ?_⟩
    exact ((HB1.out.alloc HB1.out.size _).trans (hb2.mono (by simp; omega))).alloc (by have := hb2.size; simp at this; omega) _
  have hrow : Blk (w2.alloc (.cells #[.slice (some ⟨g, 0, none⟩) (len + 1) (len + 1), .string hst] 62)) g 57 (i32s (tv :: zs.take len)) := hbg.alloc _
  have HK := hide hkept
  have HR := hide hrow
  clear hkept hrow hb2 hbg HQ HB1 HPP hg
  go_upto_region 5 with fail
  generalize (w2.alloc (.cells #[.slice (some ⟨g, 0, none⟩) (len + 1) (len + 1), .string hst] 62)) = W at *
  have g0 := HK.out.2.1.cell (i := 0) (by simp)
  have g1 := HK.out.2.1.cell (i := 1) (by simp)
  simp only [List.getElem_cons_zero, List.getElem_cons_succ] at g0 g1
  go_wp2_with fail
  go_loopw [11] (fun i wr => ∃ k : Nat, k ≤ len + 1 ∧ i = .int .i64 k ∧ Blk wr g 57 (i32s (flipped (tv :: zs.take len) k)) ∧ Kept w wr w1.heap.size w2.heap.size P g len (some ⟨P, 0, none⟩) zs rst hst) (fun i _ => len + 1 - (intOf i).toNat)
  case atStart => exact ⟨0, Nat.zero_le _, rfl, by rw [flipped_zero]; exact HR.out, HK.out⟩
  case round =>
    obtain ⟨k, hk, rfl, hrow, hkept⟩ := hrel
    clear g0 g1
    have hLl : (tv :: zs.take len).length = len + 1 := by simp; omega
    have c0 := hkept.2.1.cell (i := 0) (by simp)
    have c1 := hkept.2.1.cell (i := 1) (by simp)
    simp only [List.getElem_cons_zero, List.getElem_cons_succ] at c0 c1
    by_cases hlt : k < len + 1
    · have q := hrow.cell (i := k) (by simp [i32s, flipped_length]; omega)
      have q2 : wr.cell? ⟨g, k, none⟩ = some (.int .i32 ((tv :: zs.take len)[k]'(by omega))) := by
        rw [q]; simp only [i32s, List.getElem_map]; rw [flipped_at _ _ (by omega)]
      have hf := hrow.frozen k
      have HR2 := hide ((hrow.set k (.int .i32 (bits .xor .i32 ((tv :: zs.take len)[k]'(by omega)) 1))).drew)
      rw [i32s_set, flipped_succ _ _ (by omega)] at HR2
      have HK2 := hide (hkept.set (by omega) (by omega) (by omega) (by omega) k (.int .i32 (bits .xor .i32 ((tv :: zs.take len)[k]'(by omega)) 1)))
      have hk2 : (k : Int) < (len : Int) + 1 := by omega
      generalize ((tv :: zs.take len)[k]'(by omega)) = z at q2 HR2 HK2
      clear q hrow hkept hLl
      go_wp2
      go_region
      all_goals go_wp2
      all_goals go_roundw
      case rel => exact ⟨k + 1, by omega, by go_num, HR2.out, HK2.out⟩
      case measure => simp [intOf]; omega
    · obtain rfl : k = len + 1 := by omega
      have hrr : ∀ i, i < len → wr.cell? ⟨P, i, none⟩ = some (.int .i32 (zs.getD i 0)) := fun i hi => by
        rcases hkept.2.2.1 with h | h
        · omega
        · obtain ⟨h1, h2⟩ := i32s_at zs len i hi hz
          rw [h.cell h1, h2]
      have hgg : ∀ i, i < len → wr.cell? ⟨g, i + 1, none⟩ = some (.int .i32 (bits .xor .i32 (zs.getD i 0) 1)) := fun i hi => by
        rw [hrow.cell (i := i + 1) (by simp [i32s, flipped_length]; omega)]
        simp only [i32s, List.getElem_map]
        rw [flipped_done _ _ _ (by omega) (by omega)]
        simp [List.getElem?_eq_getElem (show i < zs.length by omega)]
      have hgz : wr.cell? ⟨g, 0, none⟩ = some (.int .i32 (bits .xor .i32 tv 1)) := by
        rw [hrow.cell (i := 0) (by simp [i32s, flipped_length])]
        simp only [i32s, List.getElem_map]
        rw [flipped_done _ _ _ (by omega) (by omega)]
        simp
      have haa : ∀ i, i < len → wr.cell? ⟨b, off + i, none⟩ = some (.int .i32 (zs.getD i 0)) := fun i hi => by rw [hkept.2.2.2.cell hb]; exact HC.out i hi
      have d0 := hkept.1.cell (i := 0) (by simp)
      have d1 := hkept.1.cell (i := 1) (by simp)
      simp only [List.getElem_cons_zero, List.getElem_cons_succ] at d0 d1
      have HB := hide hkept.2.2.2
      have HRR := hide hrr
      have HGG := hide hgg
      have HAA := hide haa
      have HGZ := hide hgz
      have HC0 := hide c0
      have HD0 := hide d0
      have HD1 := hide d1
      clear hrr hgg haa hgz d0 d1 hrow hkept c1 HK HR HC
      go_wp2_with fail
      clear c0
      go_loopw [12] (fun i wq => ∃ k : Nat, k ≤ len ∧ i = .int .i64 k ∧ Below wr.heap.size wr wq) (fun i _ => len - (intOf i).toNat)
      case atStart => exact ⟨0, Nat.zero_le _, rfl, Below.refl _ _⟩
      case round =>
        obtain ⟨k, hk, rfl, hbr⟩ := hrel
        have f0 := hbr.cell (cell_lt HC0.out)
        rw [HC0.out] at f0
        have f1 := hbr.cell (cell_lt HD0.out)
        rw [HD0.out] at f1
        have f2 := hbr.cell (cell_lt HD1.out)
        rw [HD1.out] at f2
        have f3 := hbr.cell (cell_lt HGZ.out)
        rw [HGZ.out] at f3
        by_cases hlt : k < len
        · have q1 := hbr.cell (cell_lt (HRR.out k hlt))
          rw [HRR.out k hlt] at q1
          have q2 := hbr.cell (cell_lt (HGG.out k hlt))
          rw [HGG.out k hlt] at q2
          have q3 := hbr.cell (cell_lt (HAA.out k hlt))
          rw [HAA.out k hlt] at q3
          generalize zs.getD k 0 = z at q1 q2 q3
          have hk1 : (k : Int) < (len : Int) := by omega
          have hk2 : (k : Int) + 1 < (len : Int) + 1 := by omega
          have HBR := hide hbr
          clear hbr
          go_wp2
          go_quiet (fail)
          go_wp2
          go_quiet (fail)
          go_wp2
          go_roundw
          case rel => exact ⟨k + 1, by omega, by go_num, below_drewN HBR.out _⟩
          case measure => simp [intOf]; omega
        · obtain rfl : k = len := by omega
          have HBR := hide hbr
          clear hbr
          go_wp2
          go_ret
          exact ⟨by simp, HB.out.trans (HBR.out.mono HB.out.size)⟩
set_option maxHeartbeats 2000000 in
set_option maxRecDepth 100000 in
theorem fresh_zero (a : Option Addr) (cap : Nat) (zs : List Int) (tv : Int) (rst hst : ByteArray) (w : World) (h0 : IsRow .i32 w a 0 cap zs) :
    Calls Yba.prog 6 #[.slice a 0 cap, .int .i32 tv, .string rst, .string hst] w fun e w' => e = .returned (.bool true) ∧ Below w.heap.size w w' := by
  have HP := hide (cpath_one a 0 cap zs w h0 (by omega))
  clear h0
  go_enter Yba.func6, Yba.ntmps6
  go_wp2_with fail
  refine HP.out.mono ?_
  rintro e w1 ⟨ra, P, rfl, hra, hPge, hP, hb1⟩
  have HQ := hide (passed_str ra 0 P [] tv rst hst (w1.alloc (.cells #[.slice ra 0 0, .string rst] 62)) (by omega) rfl (by intro v hv; cases hv) (.inl rfl))
  have HB1 := hide hb1
  clear hb1 hra hP HP
  go_wp2_with fail
  refine HQ.out.mono ?_
  rintro e w2 ⟨g, rfl, hg, hbg, hb2⟩
  have hgs : w1.heap.size + 1 ≤ g := by simpa using hg
  have hglt := hbg.lt
  have hws : w.heap.size ≤ w1.heap.size := HB1.out.size
  have hbw : Below w.heap.size w (w2.alloc (.cells #[.slice (some ⟨g, 0, none⟩) (0 + 1) (0 + 1), .string hst] 62)) :=
    ((HB1.out.alloc HB1.out.size _).trans (hb2.mono (by simp; omega))).alloc (by have := hb2.size; simp at this; omega) _
  have hr : Blk w2 w1.heap.size 62 [.slice ra 0 0, .string rst] := (Blk.new w1 62 [.slice ra 0 0, .string rst]).below hb2 (by simp)
  have hr' := hr.alloc (.cells #[.slice (some ⟨g, 0, none⟩) (0 + 1) (0 + 1), .string hst] 62)
  have cr1 : (w2.alloc (.cells #[.slice (some ⟨g, 0, none⟩) (0 + 1) (0 + 1), .string hst] 62)).cell? ⟨w1.heap.size, 1, none⟩ = some (.string rst) := hr'.cell (i := 1) (by simp)
  have cg0 : (w2.alloc (.cells #[.slice (some ⟨g, 0, none⟩) (0 + 1) (0 + 1), .string hst] 62)).cell? ⟨g, 0, none⟩ = some (.int .i32 tv) := (hbg.alloc _).cell (i := 0) (by simp)
  have fg0 : (w2.alloc (.cells #[.slice (some ⟨g, 0, none⟩) (0 + 1) (0 + 1), .string hst] 62)).frozen? ⟨g, 0, none⟩ = false := (hbg.alloc _).frozen 0
  have g0 : (w2.alloc (.cells #[.slice (some ⟨g, 0, none⟩) (0 + 1) (0 + 1), .string hst] 62)).cell? ⟨w2.heap.size, 0, none⟩ = some (.slice (some ⟨g, 0, none⟩) 1 1) := by simp
  have g1 : (w2.alloc (.cells #[.slice (some ⟨g, 0, none⟩) (0 + 1) (0 + 1), .string hst] 62)).cell? ⟨w2.heap.size, 1, none⟩ = some (.string hst) := by simp
  simp only [Nat.zero_add] at hbw cr1 cg0 g0 g1 fg0
  have hne1 : ¬ w2.heap.size = g := by omega
  have hne2 : ¬ w1.heap.size = g := by omega
  have hne3 : ¬ g = w2.heap.size := by omega
  have hne4 : ¬ g = w1.heap.size := by omega
  have hgw : w.heap.size ≤ g := by omega
  have HBW := hide hbw
  clear hbw hb2 hbg HQ HB1 hr hr' hg hgs hglt
  go_upto_region 5 with fail
  generalize (w2.alloc (.cells #[.slice (some ⟨g, 0, none⟩) 1 1, .string hst] 62)) = W at *
  go_wp2_with fail
  refine wp_loop_rounds 2 ?_
  rw [rounds_succ]
  go_wp2_with fail
  go_region
  all_goals go_wp2_with fail
  rw [rounds_succ]
  go_wp2_with fail
  refine wp_loop_rounds 1 ?_
  rw [rounds_succ]
  go_wp2
  go_ret
  exact ⟨by simp, (HBW.out.setCell (p := ⟨g, 0, none⟩) hgw _).drew⟩

theorem fresh_walk (a : Option Addr) (len cap : Nat) (zs : List Int) (tv : Int) (rst hst : ByteArray) (w : World) (h0 : IsRow .i32 w a len cap zs) :
    Calls Yba.prog 6 #[.slice a len cap, .int .i32 tv, .string rst, .string hst] w fun e w' => e = .returned (.bool true) ∧ Below w.heap.size w w' := by
  obtain ⟨hz, hnil, hc⟩ := h0.at
  rcases Nat.lt_or_ge 1024 len with hgt0 | hn
  · have hgt : (1024 : Int) < (len : Int) := by omega
    clear h0 hc hnil
    go_enter Yba.func6, Yba.ntmps6
    go_wp2
    go_ret
    exact ⟨rfl, Below.refl _ _⟩
  · by_cases hpos : 0 < len
    · obtain ⟨b, off, rfl, hb, hcc⟩ := hc hpos
      exact fresh_pos b off len cap zs tv rst hst w h0 hz hpos hn hb hcc
    · obtain rfl : len = 0 := by omega
      exact fresh_zero a cap zs tv rst hst w h0

theorem own : ownKnob Yba.prog.godebug = none := by kernel_rfl
theorem laidOut : laidOutB Yba.prog = true := by kernel_rfl

section
open Go.ChangeShapes Go.ChangeAt
open Go.ChangeMaps (open_string shut_string)
set_option linter.unusedVariables false
set_option maxRecDepth 100000 in
theorem lifted (os : Os) (started : os.Started) (H : Type) (enc : TypeId × Value → H) :
    ReturnsInHanded {} Yba.checked os 6 .any (Rows.lawS0134CFreshSpec.pre6 enc Yba.prog Yba.f6 Rows.lawS0134CFreshRow.domain false) (Rows.lawS0134CFreshSpec.post enc Yba.prog Yba.f6 false true false false) := by
  refine returnsInHanded_of_change (C := Yba.checked) own started (by kernel_rfl) Yba.func6
    (ChangeSpec.witness6 (enc := enc) (C := Yba.checked) false ⟨#[], #[.slice none 0 0, .int .i32 0, .string ByteArray.empty, .string ByteArray.empty], []⟩ 8 (by kernel_rfl) (by kernel_rfl) (by kernel_rfl) (by kernel_rfl)) ?_
  intro W base args ds gs before hval0 hW hcnd _
  have hval : ∀ (j : Nat) t v, Yba.f6.params[j]? = some t → args[j]? = some v → Value.okWide Yba.prog W .any base t v := hval0
  have hW' := hW
  obtain ⟨p, q, hA0, hV, rfl, hfz, hnd⟩ := hW
  have hA : DataW.TrodAll enc Yba.prog W 0 (fun _ => true) true Yba.f6.params.toList args.toList ds p := hA0
  rw [Yba.params6] at hA hval
  obtain ⟨v0, vs0, d0, ds0, p0, q0, hargs, rfl, rfl, h0, r0⟩ := trodAll_cons hA
  obtain ⟨v1, vs1, d1, ds1, p1, q1, rfl, rfl, rfl, h1, r1⟩ := trodAll_cons r0
  obtain ⟨v2, vs2, d2, ds2, p2, q2, rfl, rfl, rfl, h2, r2⟩ := trodAll_cons r1
  obtain ⟨v3, vs3, d3, ds3, p3, q3, rfl, rfl, rfl, h3, r3⟩ := trodAll_cons r2
  obtain ⟨rfl, rfl, rfl⟩ := trodAll_nil r3
  obtain rfl : args = #[v0, v1, v2, v3] := by cases args; simp_all
  obtain ⟨rfl, rfl⟩ := trodVars_none hV
  obtain ⟨a0, len0, cap0, rfl⟩ := okWide_slice Yba.underlying50 (hval 0 50 v0 rfl rfl)
  have k0 := h0
  have lt0 : ∀ x ∈ p0, x.block < W.heap.size := by obtain ⟨m, hm⟩ := k0; exact DataW.trod_lt m _ _ _ hm
  obtain ⟨z0, w0⟩ : ∃ zs, IsRow .i32 W a0 len0 cap0 zs := by
    obtain ⟨fuel, hf⟩ := h0
    rcases open_ints Yba.underlying50 Yba.underlying21 (by kernel_rfl) hf with ⟨hcs, _⟩ | ⟨x, l, c, zs, hcs, _, hl, hm, hz, _, hcell, hwz⟩
    · simp [Value.cells] at hcs
      obtain ⟨rfl, rfl, rfl⟩ := hcs
      exact ⟨[], .inl ⟨rfl, rfl, rfl, rfl⟩⟩
    · simp [Value.cells] at hcs
      obtain ⟨rfl, rfl, rfl⟩ := hcs
      exact ⟨zs, .inr ⟨_, rfl, hl, hm, by simpa using hz, hcell, hwz⟩⟩
  obtain ⟨a1, rfl, rfl, rfl, w1⟩ := open_int Yba.underlying21 (hval 1 21 v1 rfl rfl) h1
  obtain ⟨a2, rfl, rfl, rfl, w2⟩ := open_string Yba.underlying9 (hval 2 9 v2 rfl rfl) h2
  obtain ⟨a3, rfl, rfl, rfl, w3⟩ := open_string Yba.underlying9 (hval 3 9 v3 rfl rfl) h3
  clear hA0 hval0
  refine (fresh_walk a0 len0 cap0 z0 a1 a2 a3 W w0).mono fun e W' ⟨he, bel⟩ => ?_
  subst he
  exact ⟨_, rfl, _, _, _, [], _, [], hW', trodAll_mk1 (shut_bool Yba.underlying4 _), (trodAll_cons_mk (Below.trod laidOut (by kernel_rfl) (of_decide_eq_true (by kernel_rfl)) k0 bel lt0) (trodAll_cons_mk (shut_int Yba.underlying21 w1) (trodAll_cons_mk (shut_string Yba.underlying9 w2) (trodAll_cons_mk (shut_string Yba.underlying9 w3) trodAll_mk0)))), rfl, bel.frame _, fun h => by cases h⟩

theorem over : Rows.lawS0134CFreshRow.holds Yba.pinned (OpenSpec.ofChange Rows.lawS0134CFreshSpec) :=
  OpenClaim.holds_of_wide 6 Yba.f6 rfl rfl rfl rfl rfl rfl rfl ⟨rfl, rfl, rfl, rfl, rfl⟩ rfl rfl rfl rfl rfl (by kernel_rfl) Yba.func6 (by kernel_rfl)
    (of_decide_eq_true (by kernel_rfl)) (by unfold Func.isWrapper; first | (rw [if_pos (by decide +kernel)]; kernel_rfl) | (rw [if_neg (by decide +kernel)]; exact ⟨rfl, rfl⟩))
    (fun os started H enc _ => lifted os started H enc)

theorem fresh_proved : Rows.LawS0134CFreshSaid := over
end
end Go.Proofs.Ybulkbte.Fresh
