/- LawS0133AGrouping: the walks. -/
import Derived.Test.YbulkbsqFilter
namespace Go.Proofs.Ybulkbsq
open Go.RowKit Go.WideShapes

theorem run_fn_nil35 (K : Nat) (b : Array Value) (w : World) : (binOp .eql 35 (.func (.func K) #[] b) .nilFunc).run Yba.prog w = .ok (.bool false) w := by kernel_rfl

/-- newAggregation, then zzs0133aparts. -/
def PartsOf (w1 : World) (K pe px g : Nat) (v : Value) : Prop :=
  ∃ T r, v = .iface T (.pointer (some ⟨r, 0, none⟩)) ∧ Calls Yba.prog 8 #[.iface T (.pointer (some ⟨r, 0, none⟩))] w1 fun e w' => ∃ (kind : Int) (bt : Value), e = .returned (.tuple #[.int .i64 kind, .pointer (some ⟨pe, 0, none⟩), .nilIface, .iface 29 (.pointer (some ⟨px, 0, none⟩)),
    .agg #[.func (.func K) #[] #[.pointer (some ⟨g, 0, none⟩)], .map none, .slice none 0 0, .slice none 0 0], bt]) ∧ (kind == 0) = false ∧ Below w1.heap.size w1 w'

theorem parts_of {w w1 : World} {op : Int} {wo : Bool} {pe px : Nat} {ss : List ByteArray} {e : Ending} (K : Nat) (hK : byFn wo = K) (h : Made w op wo pe px ss e w1) :
    ∃ g v, e = .returned v ∧ PartsOf w1 K pe px g v ∧ Bound (fun _ => True) w1 g (bySs wo ss) ∧ Below w.heap.size w w1 := by
  subst hK
  obtain ⟨r, g, hr, hbd, hb, c0, c1, c2, hc⟩ := h
  rcases hc with ⟨_, he, c3, hG⟩ | ⟨_, he, c3, hG⟩ | ⟨_, he, hG⟩ | ⟨_, he, hG⟩
  · exact ⟨g, _, he, ⟨_, r, rfl, (parts_rank w1 r pe px g 16 wo hr c0 c1 c2 c3 hG).mono fun e w' ⟨h1, h2⟩ => ⟨1, _, h1, rfl, h2⟩⟩, hbd, hb⟩
  · exact ⟨g, _, he, ⟨_, r, rfl, (parts_rank w1 r pe px g 17 wo hr c0 c1 c2 c3 hG).mono fun e w' ⟨h1, h2⟩ => ⟨1, _, h1, rfl, h2⟩⟩, hbd, hb⟩
  · exact ⟨g, _, he, ⟨_, r, rfl, (parts_count w1 r pe px g wo hr c0 c1 c2 hG).mono fun e w' ⟨h1, h2⟩ => ⟨2, _, h1, rfl, h2⟩⟩, hbd, hb⟩
  · exact ⟨g, _, he, ⟨_, r, rfl, (parts_red w1 r pe px g wo hr c0 c1 c2 hG).mono fun e w' ⟨h1, h2⟩ => ⟨3, _, h1, rfl, h2⟩⟩, hbd, hb⟩

theorem labCells_at (F : List Lb) : ∀ k, k < F.length → (labCells F)[k * 2]? = some (.string (F.getD k noL).1) ∧ (labCells F)[k * 2 + 1]? = some (.string (F.getD k noL).2) := by
  induction F with
  | nil => intro k hk; simp at hk
  | cons x r ih =>
    intro k hk
    cases k with
    | zero => simp [labCells]
    | succ j =>
      have := ih j (by simpa using hk)
      have e : labCells (x :: r) = .string x.1 :: .string x.2 :: labCells r := rfl
      rw [e, show (j + 1) * 2 = j * 2 + 1 + 1 by omega]
      simpa using this

/-- Two cells of an owned row of labels. -/
theorem owns_at {w : World} {base g m cap : Nat} {F : List Lb} (h : w.ownsRow base 53 2 (.slice (some ⟨g, 0, none⟩) m cap) m (labCells F)) (k : Nat) (hk : k < F.length) :
    w.cell? ⟨g, k * 2, none⟩ = some (.string (F.getD k noL).1) ∧ w.cell? ⟨g, k * 2 + 1, none⟩ = some (.string (F.getD k noL).2) := by
  obtain ⟨a, b⟩ := labCells_at F k hk
  have h1 := h.cells (g := g) rfl _ _ a
  have h2 := h.cells (g := g) rfl _ _ b
  rw [add_plain, Nat.zero_add] at h1 h2
  exact ⟨h1, h2⟩

theorem owns_below {W wr : World} {base size n : Nat} {e : TypeId} {v : Value} {xs : List Value} (h : W.ownsRow base e size v n xs) (hb : Below W.heap.size W wr) : wr.ownsRow base e size v n xs :=
  h.kept (row := none) ⟨hb.os, hb.tape, hb.output, hb.size, fun j hj _ => hb.block j hj⟩ (by
    cases v.ownBlock with
    | none => exact .inl rfl
    | some k => exact .inr (by simp))

theorem owns_len {w : World} {base m : Nat} {v : Value} {F : List Lb} (h : w.ownsRow base 53 2 v m (labCells F)) : F.length = m := by
  have := h.1
  rw [labCells_length] at this
  omega

set_option maxHeartbeats 4000000 in
set_option maxRecDepth 100000 in
theorem grouping_false (sel : Int) (na : Option Addr) (nn nc : Nat) (la : Option Addr) (ln lc : Nat) (ss : List ByteArray) (ls : List Lb) (w : World) (h0 : 0 ≤ sel) (h1 : sel ≤ 255) (hnn : nn ≤ 1024) (hln : ln ≤ 1024)
    (hs : StrRow (· < w.heap.size) w na nn ss) (hnil : na = none → nn = 0 ∧ nc = 0) (hl : LabRow (· < w.heap.size) w la ln ls) :
    Calls Yba.prog 5 #[.int .u8 sel, .bool false, .slice na nn nc, .slice la ln lc] w fun e w' => e = .returned (.bool true) ∧ Below w.heap.size w w' := by
  have hg1 : ¬ (1024 : Int) < (nn : Int) := by omega
  have hg2 : ¬ (1024 : Int) < (ln : Int) := by omega
  have hA : Below w.heap.size w ((w.alloc (.cells #[.int .i64 (sel % 12), .nilIface, .bool false, .slice na nn nc, .nilIface] 28)).alloc (.cells #[.int .i64 0] 31)) := ((Below.refl _ _).alloc (Nat.le_refl _) _).alloc (by simp) _
  have HNA := hide (na_any (sel % 12) false na nn nc ss ((w.alloc (.cells #[.int .i64 (sel % 12), .nilIface, .bool false, .slice na nn nc, .nilIface] 28)).alloc (.cells #[.int .i64 0] 31)) w.heap.size (w.heap.size + 1) (by simp; omega) hnn
    ((hs.mono (fun k hk => by simp; omega)).below hA (Nat.le_refl _)) hnil (by simp) (by simp) (by simp))
  have HA := hide hA
  have HS := hide hs
  have HL := hide hl
  have hfn := run_fn_nil35
  clear hs hl hA hnil
  go_enter Yba.func5, Yba.ntmps5
  go_wp2_with fail
  refine HNA.out.mono ?_
  intro e w1 hmade
  obtain ⟨g, v, rfl, ⟨T, r, hv, hp8⟩, hbd, hb1⟩ := parts_of 23 rfl hmade
  rw [hv]
  have HP8 := hide hp8
  have HBD := hide hbd
  have HB1 := hide (HA.out.trans (hb1.mono HA.out.size))
  clear hmade hv hp8 hbd hb1 HNA HA
  go_wp2_with fail
  refine HP8.out.mono ?_
  rintro e w2 ⟨kind, bt, rfl, hkind, hb2⟩
  have hBW : Below w.heap.size w (w2.alloc (.cells #[.func (.func 23) #[] #[.pointer (some ⟨g, 0, none⟩)], .map none, .slice none 0 0, .slice none 0 0] 42)) :=
    (HB1.out.trans (hb2.mono HB1.out.size)).alloc (Nat.le_trans HB1.out.size hb2.size) _
  have HBY := hide (by_keep (ok := fun k => k < w.heap.size) (ok' := fun _ => True) la ln lc g (bySs false ss) ls (w2.alloc (.cells #[.func (.func 23) #[] #[.pointer (some ⟨g, 0, none⟩)], .map none, .slice none 0 0, .slice none 0 0] 42))
    (HL.out.below hBW (Nat.le_refl _)) hln (by have := HS.out.1; simp [bySs]; omega) (HBD.out.below (hb2.alloc hb2.size _) (Nat.le_refl _)))
  have HBW := hide hBW
  clear hb2 hBW HP8 HBD HB1
  go_wp2_with fail
  refine HBY.out.mono ?_
  rintro e W ⟨gg, gcap, rfl, hown, hb3⟩
  obtain ⟨P, hP⟩ : ∃ P, P = keepP false (bySs false ss) := ⟨_, rfl⟩
  rw [← hP] at hown ⊢
  have HP := hide hP
  have HGOT := hide hown
  have HBW2 := hide (HBW.out.trans (hb3.mono HBW.out.size))
  have hlen : ((ls.filter fun l => P l.1).length : Int) ≤ 1024 := by
    have := List.length_filter_le (fun l : Lb => P l.1) ls
    have h2 := HL.out.1
    omega
  clear hown hb3 HBY HBW hP hfn
  obtain ⟨i0, hi, hz0, hz1, hz2⟩ := info_parts Yba.info53
  go_wp2_with fail
  go_loopw [19, 20] (fun v i wr => ∃ k : Nat, k ≤ ln ∧ i = .int .i64 k ∧ wr.ownsRow W.heap.size 53 2 v (filt P ls k).length (labCells (filt P ls k)) ∧ Below W.heap.size W wr) (fun _ i _ => ln - (intOf i).toNat)
  case atStart => exact ⟨0, Nat.zero_le _, rfl, World.ownsRow_nil _ _ _ _, Below.refl _ _⟩
  case round =>
    obtain ⟨k, hk, rfl, hown, hbr⟩ := hrel
    have hbw := HBW2.out.trans (hbr.mono HBW2.out.size)
    by_cases hlt : k < ln
    · rcases HL.out.2 with h | ⟨b, off, hla, hb, hc⟩
      · exact absurd h (by omega)
      subst hla
      obtain ⟨q0, q1⟩ := hc k hlt
      have r0 := hbw.cell (p := ⟨b, off + k * 2, none⟩) hb
      rw [q0] at r0
      have r1 := hbw.cell (p := ⟨b, off + k * 2 + 1, none⟩) hb
      rw [q1] at r1
      have hk1 : (k : Int) < (ln : Int) := by omega
      have hfl := filt_le P ls k
      have hbs := hbr.size
      have hll := HL.out.1
      have HHIT := hide (filt_hit P ls k (by omega))
      have HMISS := hide (filt_miss P ls k (by omega))
      obtain ⟨x, hx⟩ : ∃ x, x = (ls.getD k noL) := ⟨_, rfl⟩
      rw [← hx] at r0 r1 HHIT HMISS
      have HCON := hide (contains_any na nn nc ss x.1 wr (HS.out.below hbw (Nat.le_refl _)) (by omega))
      have HPX : Hid (P x.1 = among ss x.1) := hide (by rw [HP.out]; simp [keepP, bySs])
      have HO := hide hown
      have HB := hide hbr
      clear hx hown hbr hbw q0 q1 hc hll
      go_wp2_with fail
      refine HCON.out.mono ?_
      rintro e w' ⟨rfl, hw'⟩
      have hw2 := hw'.symm
      clear hw'
      subst hw2
      by_cases ham : among ss x.1 = true
      · have HF := hide (HHIT.out (by rw [HPX.out]; exact ham))
        have HCE := hide (cells_lab wr (.string x.1) (.string x.2) 53)
        clear HHIT HMISS HCON HPX
        go_wp2_with (at_builtin; refine wpList_append_own _ rfl (.tmp 91) (.tmp 96) 49 rfl W.heap.size 53 i0 (.agg #[.string ByteArray.empty, .string ByteArray.empty]) 2 32 Yba.underlying49 hi hz0 hz1 hz2 rfl (by decide) _ _ _ rfl (HO.out.alloc _) ⟨wr.heap.size, 0, none⟩ 1 1 [.string x.1, .string x.2] rfl rfl HCE.out (by simp [Value.oneCell']) (by unfold maxLen; omega) (by omega) (by simp; omega) ?_; intro v' w3 hown3 hgrow3 _; have HO3 := hide hown3; have HG3 := hide hgrow3; clear hown3 hgrow3)
        go_roundw
        case rel =>
          refine ⟨k + 1, by omega, by go_num, ?_, ?_⟩
          · rw [HF.out, labCells_append, labCells_one]; simpa using HO3.out
          · exact (HB.out.alloc hbs _).grown HG3.out (by simp; omega) (fun j hj => (HO.out.lt j hj).1)
        case measure => simp [intOf]; omega
      · have hpf : among ss x.1 = false := by simpa using ham
        have HF := hide (HMISS.out (by rw [HPX.out]; exact hpf))
        clear ham HHIT HMISS HCON HPX
        go_wp2
        go_roundw
        case rel =>
          refine ⟨k + 1, by omega, by go_num, ?_, HB.out⟩
          · rw [HF.out]; exact HO.out
        case measure => simp [intOf]; omega
    · have hkl : k = ln := by omega
      have hfa := filt_all P ls k (by have := HL.out.1; omega)
      rw [hfa] at hown
      clear hfa
      have HB := hide hbw
      have HGT := hide (owns_below HGOT.out hbr)
      have HLL := HL.out.1
      clear HGOT hbw hbr HS HL HP HBW2
      generalize (ls.filter fun l => P l.1) = F at *
      have hk0 : ¬ (k : Int) < (ln : Int) := by omega
      rcases hown.2 with ⟨hv, hm0⟩ | ⟨g2, cap2, cur, hv, _, _, _⟩
      · rw [hv]
        clear hown hv HGT
        go_wp2_with fail
        refine wp_loop_rounds 1 ?_
        rw [rounds_succ]
        go_wp2
        go_ret
        exact ⟨rfl, HB.out⟩
      · rw [hv] at hown ⊢
        have HW := hide hown
        clear hown hv
        go_wp2_with fail
        go_loopw [23] (fun i wq => ∃ k : Nat, k ≤ F.length ∧ i = .int .i64 k ∧ Below wr.heap.size wr wq) (fun i _ => F.length - (intOf i).toNat)
        case atStart => exact ⟨0, Nat.zero_le _, rfl, Below.refl _ _⟩
        case round =>
          obtain ⟨j, hj, rfl, hbq⟩ := hrel
          by_cases hlt2 : j < F.length
          · obtain ⟨a1, a2⟩ := owns_at HGT.out j hlt2
            obtain ⟨b1, b2⟩ := owns_at HW.out j hlt2
            have a1' := hbq.cell (cell_lt a1)
            rw [a1] at a1'
            have a2' := hbq.cell (cell_lt a2)
            rw [a2] at a2'
            have b1' := hbq.cell (cell_lt b1)
            rw [b1] at b1'
            have b2' := hbq.cell (cell_lt b2)
            rw [b2] at b2'
            generalize F.getD j noL = x at a1' a2' b1' b2'
            have hj1 : (j : Int) < (F.length : Int) := by omega
            have HQ := hide hbq
            clear a1 a2 b1 b2 hbq
            go_wp2
            go_quiet (fail)
            go_wp2
            go_roundw
            case rel => exact ⟨j + 1, by omega, by go_num, below_drewN HQ.out _⟩
            case measure => simp [intOf]; omega
          · have hj1 : ¬ (j : Int) < (F.length : Int) := by omega
            have HQ := hide hbq
            clear hbq
            go_wp2
            go_ret
            exact ⟨rfl, HB.out.trans (HQ.out.mono HB.out.size)⟩
theorem MN_list : MN.toList = [95, 95, 110, 97, 109, 101, 95, 95] := by rw [ByteArray.toList_eq]; rfl

set_option maxHeartbeats 4000000 in
set_option maxRecDepth 100000 in
theorem grouping_true (sel : Int) (na : Option Addr) (nn nc : Nat) (la : Option Addr) (ln lc : Nat) (ss : List ByteArray) (ls : List Lb) (w : World) (h0 : 0 ≤ sel) (h1 : sel ≤ 255) (hnn : nn ≤ 1024) (hln : ln ≤ 1024)
    (hs : StrRow (· < w.heap.size) w na nn ss) (hnil : na = none → nn = 0 ∧ nc = 0) (hl : LabRow (· < w.heap.size) w la ln ls) :
    Calls Yba.prog 5 #[.int .u8 sel, .bool true, .slice na nn nc, .slice la ln lc] w fun e w' => e = .returned (.bool true) ∧ Below w.heap.size w w' := by
  have hg1 : ¬ (1024 : Int) < (nn : Int) := by omega
  have hg2 : ¬ (1024 : Int) < (ln : Int) := by omega
  have hA : Below w.heap.size w ((w.alloc (.cells #[.int .i64 (sel % 12), .nilIface, .bool true, .slice na nn nc, .nilIface] 28)).alloc (.cells #[.int .i64 0] 31)) := ((Below.refl _ _).alloc (Nat.le_refl _) _).alloc (by simp) _
  have HNA := hide (na_any (sel % 12) true na nn nc ss ((w.alloc (.cells #[.int .i64 (sel % 12), .nilIface, .bool true, .slice na nn nc, .nilIface] 28)).alloc (.cells #[.int .i64 0] 31)) w.heap.size (w.heap.size + 1) (by simp; omega) hnn
    ((hs.mono (fun k hk => by simp; omega)).below hA (Nat.le_refl _)) hnil (by simp) (by simp) (by simp))
  have HA := hide hA
  have HS := hide hs
  have HL := hide hl
  have hfn := run_fn_nil35
  clear hs hl hA hnil
  go_enter Yba.func5, Yba.ntmps5
  go_wp2_with fail
  refine HNA.out.mono ?_
  intro e w1 hmade
  obtain ⟨g, v, rfl, ⟨T, r, hv, hp8⟩, hbd, hb1⟩ := parts_of 25 rfl hmade
  rw [hv]
  have HP8 := hide hp8
  have HBD := hide hbd
  have HB1 := hide (HA.out.trans (hb1.mono HA.out.size))
  clear hmade hv hp8 hbd hb1 HNA HA
  go_wp2_with fail
  refine HP8.out.mono ?_
  rintro e w2 ⟨kind, bt, rfl, hkind, hb2⟩
  have hBW : Below w.heap.size w (w2.alloc (.cells #[.func (.func 25) #[] #[.pointer (some ⟨g, 0, none⟩)], .map none, .slice none 0 0, .slice none 0 0] 42)) :=
    (HB1.out.trans (hb2.mono HB1.out.size)).alloc (Nat.le_trans HB1.out.size hb2.size) _
  have HBY := hide (by_drop (ok := fun k => k < w.heap.size) (ok' := fun _ => True) la ln lc g (bySs true ss) ls (w2.alloc (.cells #[.func (.func 25) #[] #[.pointer (some ⟨g, 0, none⟩)], .map none, .slice none 0 0, .slice none 0 0] 42))
    (HL.out.below hBW (Nat.le_refl _)) hln (by have := HS.out.1; simp [bySs]; omega) (HBD.out.below (hb2.alloc hb2.size _) (Nat.le_refl _)))
  have HBW := hide hBW
  clear hb2 hBW HP8 HBD HB1
  go_wp2_with fail
  refine HBY.out.mono ?_
  rintro e W ⟨gg, gcap, rfl, hown, hb3⟩
  obtain ⟨P, hP⟩ : ∃ P, P = keepP true (bySs true ss) := ⟨_, rfl⟩
  rw [← hP] at hown ⊢
  have HP := hide hP
  have HGOT := hide hown
  have HBW2 := hide (HBW.out.trans (hb3.mono HBW.out.size))
  have hlen : ((ls.filter fun l => P l.1).length : Int) ≤ 1024 := by
    have := List.length_filter_le (fun l : Lb => P l.1) ls
    have h2 := HL.out.1
    omega
  clear hown hb3 HBY HBW hP hfn
  obtain ⟨i0, hi, hz0, hz1, hz2⟩ := info_parts Yba.info53
  go_wp2_with fail
  go_loopw [19, 20] (fun v i wr => ∃ k : Nat, k ≤ ln ∧ i = .int .i64 k ∧ wr.ownsRow W.heap.size 53 2 v (filt P ls k).length (labCells (filt P ls k)) ∧ Below W.heap.size W wr) (fun _ i _ => ln - (intOf i).toNat)
  case atStart => exact ⟨0, Nat.zero_le _, rfl, World.ownsRow_nil _ _ _ _, Below.refl _ _⟩
  case round =>
    obtain ⟨k, hk, rfl, hown, hbr⟩ := hrel
    have hbw := HBW2.out.trans (hbr.mono HBW2.out.size)
    by_cases hlt : k < ln
    · rcases HL.out.2 with h | ⟨b, off, hla, hb, hc⟩
      · exact absurd h (by omega)
      subst hla
      obtain ⟨q0, q1⟩ := hc k hlt
      have r0 := hbw.cell (p := ⟨b, off + k * 2, none⟩) hb
      rw [q0] at r0
      have r1 := hbw.cell (p := ⟨b, off + k * 2 + 1, none⟩) hb
      rw [q1] at r1
      have hk1 : (k : Int) < (ln : Int) := by omega
      have hfl := filt_le P ls k
      have hbs := hbr.size
      have hll := HL.out.1
      have HHIT := hide (filt_hit P ls k (by omega))
      have HMISS := hide (filt_miss P ls k (by omega))
      obtain ⟨x, hx⟩ : ∃ x, x = (ls.getD k noL) := ⟨_, rfl⟩
      rw [← hx] at r0 r1 HHIT HMISS
      have HCON := hide (contains_any na nn nc ss x.1 wr (HS.out.below hbw (Nat.le_refl _)) (by omega))
      have HPX : Hid (P x.1 = (!among ss x.1 && !decide (MN = x.1))) := hide (by rw [HP.out]; simp [keepP, bySs, among, Bool.and_comm])
      have HO := hide hown
      have HB := hide hbr
      clear hx hown hbr hbw q0 q1 hc hll
      go_wp2_with fail
      refine HCON.out.mono ?_
      rintro e w' ⟨rfl, hw'⟩
      have hw2 := hw'.symm
      clear hw'
      subst hw2
      by_cases ham : among ss x.1 = true
      · have HF := hide (HMISS.out (by rw [HPX.out, ham]; rfl))
        clear HHIT HMISS HCON HPX
        go_wp2
        go_roundw
        case rel =>
          refine ⟨k + 1, by omega, by go_num, ?_, HB.out⟩
          · rw [HF.out]; exact HO.out
        case measure => simp [intOf]; omega
      have hpf : among ss x.1 = false := by simpa using ham
      by_cases hmn : MN = x.1
      · have HF := hide (HMISS.out (by rw [HPX.out, hpf]; simp [hmn]))
        have hbb : (x.1.toList == [95, 95, 110, 97, 109, 101, 95, 95]) = true := by rw [← MN_list, toList_eq]; simp [hmn]
        clear ham HHIT HMISS HCON HPX hmn
        go_wp2
        go_roundw
        case rel =>
          refine ⟨k + 1, by omega, by go_num, ?_, HB.out⟩
          · rw [HF.out]; exact HO.out
        case measure => simp [intOf]; omega
      · have HF := hide (HHIT.out (by rw [HPX.out, hpf]; simp [hmn]))
        have hbb : (x.1.toList == [95, 95, 110, 97, 109, 101, 95, 95]) = false := by rw [← MN_list, toList_eq]; simpa using fun h => hmn h.symm
        clear ham HHIT HMISS HCON HPX hmn
        have HCE := hide (cells_lab wr (.string x.1) (.string x.2) 53)
        go_wp2_with (at_builtin; refine wpList_append_own _ rfl (.tmp 91) (.tmp 96) 49 rfl W.heap.size 53 i0 (.agg #[.string ByteArray.empty, .string ByteArray.empty]) 2 32 Yba.underlying49 hi hz0 hz1 hz2 rfl (by decide) _ _ _ rfl (HO.out.alloc _) ⟨wr.heap.size, 0, none⟩ 1 1 [.string x.1, .string x.2] rfl rfl HCE.out (by simp [Value.oneCell']) (by unfold maxLen; omega) (by omega) (by simp; omega) ?_; intro v' w3 hown3 hgrow3 _; have HO3 := hide hown3; have HG3 := hide hgrow3; clear hown3 hgrow3)
        go_roundw
        case rel =>
          refine ⟨k + 1, by omega, by go_num, ?_, ?_⟩
          · rw [HF.out, labCells_append, labCells_one]; simpa using HO3.out
          · exact (HB.out.alloc hbs _).grown HG3.out (by simp; omega) (fun j hj => (HO.out.lt j hj).1)
        case measure => simp [intOf]; omega
    · have hkl : k = ln := by omega
      have hfa := filt_all P ls k (by have := HL.out.1; omega)
      rw [hfa] at hown
      clear hfa
      have HB := hide hbw
      have HGT := hide (owns_below HGOT.out hbr)
      have HLL := HL.out.1
      clear HGOT hbw hbr HS HL HP HBW2
      generalize (ls.filter fun l => P l.1) = F at *
      have hk0 : ¬ (k : Int) < (ln : Int) := by omega
      rcases hown.2 with ⟨hv, hm0⟩ | ⟨g2, cap2, cur, hv, _, _, _⟩
      · rw [hv]
        clear hown hv HGT
        go_wp2_with fail
        refine wp_loop_rounds 1 ?_
        rw [rounds_succ]
        go_wp2
        go_ret
        exact ⟨rfl, HB.out⟩
      · rw [hv] at hown ⊢
        have HW := hide hown
        clear hown hv
        go_wp2_with fail
        go_loopw [23] (fun i wq => ∃ k : Nat, k ≤ F.length ∧ i = .int .i64 k ∧ Below wr.heap.size wr wq) (fun i _ => F.length - (intOf i).toNat)
        case atStart => exact ⟨0, Nat.zero_le _, rfl, Below.refl _ _⟩
        case round =>
          obtain ⟨j, hj, rfl, hbq⟩ := hrel
          by_cases hlt2 : j < F.length
          · obtain ⟨a1, a2⟩ := owns_at HGT.out j hlt2
            obtain ⟨b1, b2⟩ := owns_at HW.out j hlt2
            have a1' := hbq.cell (cell_lt a1)
            rw [a1] at a1'
            have a2' := hbq.cell (cell_lt a2)
            rw [a2] at a2'
            have b1' := hbq.cell (cell_lt b1)
            rw [b1] at b1'
            have b2' := hbq.cell (cell_lt b2)
            rw [b2] at b2'
            generalize F.getD j noL = x at a1' a2' b1' b2'
            have hj1 : (j : Int) < (F.length : Int) := by omega
            have HQ := hide hbq
            clear a1 a2 b1 b2 hbq
            go_wp2
            go_quiet (fail)
            go_wp2
            go_roundw
            case rel => exact ⟨j + 1, by omega, by go_num, below_drewN HQ.out _⟩
            case measure => simp [intOf]; omega
          · have hj1 : ¬ (j : Int) < (F.length : Int) := by omega
            have HQ := hide hbq
            clear hbq
            go_wp2
            go_ret
            exact ⟨rfl, HB.out.trans (HQ.out.mono HB.out.size)⟩
end Go.Proofs.Ybulkbsq
