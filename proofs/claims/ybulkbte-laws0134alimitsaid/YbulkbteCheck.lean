/- slices.Equal of rows; zzs0134acheck. -/
import Derived.Test.YbulkbteRpB
import Derived.Test.YbulkbtePlainR
import Derived.Test.YbulkbteShelf
namespace Go.Proofs.Ybulkbte
open Go.RowKit Go.WideShapes

set_option maxHeartbeats 4000000 in
theorem equal_zero (p q : Option Addr) (c d : Nat) (w : World) : Calls Yba.prog 13 #[.slice p 0 c, .slice q 0 d] w fun e w' => e = .returned (.bool true) ∧ ∃ k, w' = w.drewN k := by
  go_enter Yba.func13, Yba.ntmps13
  go_wp2
  refine wp_loop_rounds 1 ?_
  rw [rounds_succ]
  go_wp2
  go_ret
  exact ⟨rfl, 0, rfl⟩

theorem allEq_same : ∀ (xs : List Int), Lib.allEq (fun x y => x == y) xs xs = true := by
  intro xs
  induction xs with
  | nil => rfl
  | cons a r ih => simp [Lib.allEq, ih]

theorem equal_rows (C1 C2 : Nat) (v1 v2 : Value) (xs : List Int) (w : World) (h1 : Row C1 w v1 (xs.map (Value.int .u32))) (h2 : Row C2 w v2 (xs.map (Value.int .u32))) (hl : xs.length ≤ 9223372036854775807) :
    Calls Yba.prog 13 #[v1, v2] w fun e w' => e = .returned (.bool true) ∧ ∃ k, w' = w.drewN k := by
  by_cases h0 : xs.length = 0
  · obtain ⟨a1, c1, rfl, -⟩ := h1
    obtain ⟨a2, c2, rfl, -⟩ := h2
    rw [List.length_map, h0]
    exact equal_zero a1 a2 c1 c2 w
  · obtain ⟨b1, o1, c1, rfl, -, hc1⟩ := h1.at (by simp; omega)
    obtain ⟨b2, o2, c2, rfl, -, hc2⟩ := h2.at (by simp; omega)
    rw [List.length_map]
    refine (Yba.slices_Equal (Value.int .u32) (fun x y => x == y) (NeqAt.int Yba.prog 25 .u32) b1 o1 xs.length c1 b2 o2 xs.length c2 xs xs w (Nat.le_refl _) (Nat.le_refl _) hl hl (fun j hj => ?_) (fun j hj => ?_)).mono fun e w' h => ?_
    · rw [hc1 j (by simpa using hj)]; simp [List.getElem?_eq_getElem hj]
    · rw [hc2 j (by simpa using hj)]; simp [List.getElem?_eq_getElem hj]
    · rw [List.take_length, allEq_same] at h
      exact h

theorem Row.drewN {C : Nat} {w : World} {v : Value} {us : List Value} (h : Row C w v us) (q : Nat) : Row C (w.drewN q) v us := h

/-- What a made row holds once a list has been copied over it whole. -/
theorem splice_all (L cs : List Value) (h : L.length = cs.length) : splice L 0 cs = cs := by
  unfold splice
  simp [h]

theorem cp_none (dp sp : Option Addr) (dc sc : Nat) (wx : World) : (Builtin.copy_ #[23, 23] 3 #[.slice dp 0 dc, .slice sp 0 sc]).run Yba.prog wx = .ok (.int .i64 0) wx :=
  run_copy_none (P := Yba.prog) wx 23 23 3 25 dp sp 0 dc 0 sc Yba.underlying23 (by kernel_rfl) rfl

theorem cp_row {s0 m sc : Nat} {ad : Addr} {w1 : World} {L cs : List Value} (hL : L.length = m) (hc : cs.length = m) (hb : Blk w1 s0 25 L) (hsrc : ∀ j v, cs[j]? = some v → w1.cell? (ad.add j) = some v) (h1 : ∀ v ∈ cs, v.oneCell' = true) :
    ∃ w2, (Builtin.copy_ #[23, 23] 3 #[.slice (some ⟨s0, 0, none⟩) m m, .slice (some ad) m sc]).run Yba.prog w1 = .ok (.int .i64 m) w2 ∧ Blk w2 s0 25 cs ∧ Below s0 w1 w2 := by
  have hrun := run_copy_row (P := Yba.prog) w1 23 23 3 25 s0 0 m m ad m sc L.toArray 25 cs Yba.underlying23 (by kernel_rfl) hb (by rw [hc]; simp) hsrc (by simp; omega) h1
  have e : (List.take 0 L.toArray.toList ++ cs ++ List.drop (0 + cs.length) L.toArray.toList).toArray = cs.toArray := by
    have : L.drop cs.length = [] := List.drop_eq_nil_of_le (by omega)
    simp [this]
  rw [e, hc] at hrun
  exact ⟨w1.setRow s0 cs.toArray, hrun, setRow_heap w1 s0 _ _ 25 _ hb, below_setRow (Below.refl _ _) (Nat.le_refl _) _⟩

set_option maxHeartbeats 4000000 in
set_option maxRecDepth 100000 in
theorem check_walk (C D k m : Nat) (gv ov ev : Value) (os X : List Int) (w : World) (hC : C ≤ w.heap.size) (hk : k ≤ 256) (hm : m ≤ 66048) (hol : os.length = k) (hXl : X.length = m)
    (hg : w.ownsRow D 25 1 gv (k + m) ((os ++ X).map (Value.int .u32))) (ho : Row C w ov (os.map (Value.int .u32))) (he : Row C w ev ((srt X).map (Value.int .u32))) :
    Calls Yba.prog 12 #[gv, ov, ev] w fun e w' => e = .returned (.bool true) ∧ Below w.heap.size w w' := by
  obtain ⟨oa, oc, rfl, -⟩ := id ho
  obtain ⟨ea, ec, rfl, -⟩ := id he
  obtain ⟨i0, hi, hz0, hz1, hz2⟩ := info_parts info25
  have hform : (gv = .slice none 0 0 ∧ k = 0 ∧ m = 0) ∨ ∃ g cap, gv = .slice (some ⟨g, 0, none⟩) (k + m) cap ∧ k + m ≤ cap := by
    rcases hg.2 with ⟨h, h0⟩ | ⟨g, cap, cur, h, _, _, h2, _⟩
    · exact .inl ⟨h, by omega, by omega⟩
    · exact .inr ⟨g, cap, h, h2⟩
  have hsl : ((srt X).map (Value.int .u32)).length = m := by rw [List.length_map, srt_length, hXl]
  have hol2 : (os.map (Value.int .u32)).length = k := by rw [List.length_map, hol]
  rw [hsl] at he ⊢
  rw [hol2] at ho ⊢
  have HE := hide he
  have HO := hide ho
  have HG := hide hg
  have HOL := hide hol
  have HXL := hide hXl
  clear he ho hg hol hXl hsl hol2
  rcases hform with ⟨rfl, rfl, rfl⟩ | ⟨g, cap, rfl, hcap⟩
  · have HX : Hid (X = []) := hide (List.eq_nil_of_length_eq_zero HXL.out)
    have HOS : Hid (os = []) := hide (List.eq_nil_of_length_eq_zero HOL.out)
    have hE1 := hide (fun c w => equal_zero none oa c oc w)
    have hE2 := hide (fun p c w => equal_zero p ea c ec w)
    have hS := hide (fun p c w => sort_nil p c w)
    have hcp := cp_none
    go_enter Yba.func12, Yba.ntmps12
    go_wp2_with fail
    refine (hE1.out _ _).mono ?_
    rintro e w' ⟨rfl, q, rfl⟩
    go_wp2_with (at_make; refine wpList_make_full _ rfl (.tmp 27) (.tmp 27) 23 rfl w.heap.size 25 i0 (.int .u32 0) 1 Yba.underlying23 hi hz0 hz1 .i64 .i64 _ _ 0 rfl rfl (by omega) (by omega) (by rw [hz2]; omega) (by unfold maxLen; omega) (by simp) ?_; intro w1 hown hgrow; have HB1 := hide ((Below.refl w.heap.size w).grown (w := w) (w' := w1) (row := none) ⟨hgrow.os, hgrow.tape, hgrow.output, hgrow.size, hgrow.block⟩ (Nat.le_refl _) (fun k hk => by cases hk)); clear hown hgrow)
    refine (hS.out _ _ _).mono ?_
    rintro e w' ⟨rfl, hw'⟩
    have hw2 := hw'.symm
    clear hw'
    subst hw2
    go_wp2_with fail
    refine (hE2.out _ _ _).mono ?_
    rintro e w' ⟨rfl, q2, rfl⟩
    go_wp2_with fail
    go_ret
    exact ⟨rfl, below_drewN HB1.out q2⟩
  · have hglt : g < w.heap.size := (HG.out.lt g rfl).2
    have HR1 : Hid (Row w.heap.size w (.slice (some ⟨g, 0, none⟩) k cap) (os.map (Value.int .u32))) := hide (by
      refine ⟨some ⟨g, 0, none⟩, cap, by rw [List.length_map, HOL.out], (fun h => by cases h), fun x hx j u hu => ?_⟩
      cases hx
      refine ⟨hglt, HG.out.cells (g := g) rfl j u ?_⟩
      have hjl : j < (os.map (Value.int .u32)).length := by
        by_cases hjl : j < (os.map (Value.int .u32)).length
        · exact hjl
        · rw [List.getElem?_eq_none (by omega)] at hu; cases hu
      rw [List.map_append, List.getElem?_append_left hjl]
      exact hu)
    have HE1 := hide (equal_rows _ _ _ _ os w HR1.out HO.out (by have := HOL.out; omega))
    have HSRC : Hid (∀ j u, (X.map (Value.int .u32))[j]? = some u → w.cell? ((⟨g, k, none⟩ : Addr).add j) = some u) := hide (by
      intro j u hu
      have := HG.out.cells (g := g) rfl (k + j) u (by
        rw [List.map_append, List.getElem?_append_right (by rw [List.length_map, HOL.out]; omega), List.length_map, HOL.out, show k + j - k = j by omega]
        exact hu)
      rw [add_plain] at this ⊢
      rw [← this]
      simp)
    have hk1 : (k : Int) ≤ (k : Int) + (m : Int) := by omega
    have hcap1 : (k : Int) ≤ (cap : Int) := by omega
    by_cases hm0 : m = 0
    · subst hm0
      have HX : Hid (X = []) := hide (List.eq_nil_of_length_eq_zero HXL.out)
      have hE2 := hide (fun p c w => equal_zero p ea c ec w)
      have hS := hide (fun p c w => sort_nil p c w)
      have hcp := cp_none
      by_cases hck : cap - k = 0
      · obtain rfl : cap = k := by omega
        go_enter Yba.func12, Yba.ntmps12
        go_wp2_with fail
        refine HE1.out.mono ?_
        rintro e w' ⟨rfl, q, rfl⟩
        go_wp2_with (at_make; refine wpList_make_full _ rfl (.tmp 27) (.tmp 27) 23 rfl w.heap.size 25 i0 (.int .u32 0) 1 Yba.underlying23 hi hz0 hz1 .i64 .i64 _ _ 0 rfl rfl (by omega) (by omega) (by rw [hz2]; omega) (by unfold maxLen; omega) (by simp) ?_; intro w1 hown hgrow; have HB1 := hide ((Below.refl w.heap.size w).grown (w := w) (w' := w1) (row := none) ⟨hgrow.os, hgrow.tape, hgrow.output, hgrow.size, hgrow.block⟩ (Nat.le_refl _) (fun k hk => by cases hk)); clear hown hgrow)
        refine (hS.out _ _ _).mono ?_
        rintro e w' ⟨rfl, hw'⟩
        have hw2 := hw'.symm
        clear hw'
        subst hw2
        go_wp2_with fail
        refine (hE2.out _ _ _).mono ?_
        rintro e w' ⟨rfl, q2, rfl⟩
        go_wp2_with fail
        go_ret
        exact ⟨rfl, below_drewN HB1.out q2⟩
      · have hkc2 : (k : Int) < (cap : Int) := by omega
        go_enter Yba.func12, Yba.ntmps12
        go_wp2_with fail
        refine HE1.out.mono ?_
        rintro e w' ⟨rfl, q, rfl⟩
        go_wp2_with (at_make; refine wpList_make_full _ rfl (.tmp 27) (.tmp 27) 23 rfl w.heap.size 25 i0 (.int .u32 0) 1 Yba.underlying23 hi hz0 hz1 .i64 .i64 _ _ 0 rfl rfl (by omega) (by omega) (by rw [hz2]; omega) (by unfold maxLen; omega) (by simp) ?_; intro w1 hown hgrow; have HB1 := hide ((Below.refl w.heap.size w).grown (w := w) (w' := w1) (row := none) ⟨hgrow.os, hgrow.tape, hgrow.output, hgrow.size, hgrow.block⟩ (Nat.le_refl _) (fun k hk => by cases hk)); clear hown hgrow)
        refine (hS.out _ _ _).mono ?_
        rintro e w' ⟨rfl, hw'⟩
        have hw2 := hw'.symm
        clear hw'
        subst hw2
        go_wp2_with fail
        refine (hE2.out _ _ _).mono ?_
        rintro e w' ⟨rfl, q2, rfl⟩
        go_wp2_with fail
        go_ret
        exact ⟨rfl, below_drewN HB1.out q2⟩
    · have hkc : ¬ (cap - k = 0) := by omega
      have hkc2 : (k : Int) < (cap : Int) := by omega
      go_enter Yba.func12, Yba.ntmps12
      go_wp2_with fail
      refine HE1.out.mono ?_
      rintro e w' ⟨rfl, q, rfl⟩
      go_wp2_with (at_make; refine wpList_make_full _ rfl (.tmp 27) (.tmp 27) 23 rfl w.heap.size 25 i0 (.int .u32 0) 1 Yba.underlying23 hi hz0 hz1 .i64 .i64 _ _ m rfl rfl (by omega) (by omega) (by rw [hz2]; omega) (by unfold maxLen; omega) (by simp) ?_; intro w1 hown hgrow; have HB1 := hide ((Below.refl w.heap.size w).grown (w := w) (w' := w1) (row := none) ⟨hgrow.os, hgrow.tape, hgrow.output, hgrow.size, hgrow.block⟩ (Nat.le_refl _) (fun k hk => by cases hk)); obtain ⟨w2, hcp, hb2, hbel2⟩ := cp_row (s0 := w.heap.size) (m := m) (sc := cap - k) (ad := ⟨g, k, none⟩) (w1 := w1) (cs := X.map (Value.int .u32)) (by have := hown.1; simpa using this) (by rw [List.length_map, HXL.out]) (Blk.ofOwns hown) (fun j v hv => by rw [HB1.out.cell (p := (⟨g, k, none⟩ : Addr).add j) (by rw [add_block]; exact hglt)]; exact HSRC.out j v hv) (by simp [Value.oneCell']); have HB2 := hide (HB1.out.trans hbel2); have HW2 := hide hb2; clear hown hgrow hb2 hbel2)
      have HSRT := hide (sort_row w.heap.size m X w2 HW2.out.lt (fun t ht => ⟨by rw [HW2.out.cell (i := t) (by simpa using ht)]; simp [List.getElem?_eq_getElem ht], HW2.out.frozen t⟩) (by have := HXL.out; omega))
      rw [HXL.out] at HSRT
      refine HSRT.out.mono ?_
      rintro e w3 ⟨rfl, hb3, hl3, hc3⟩
      have HB3 := hide (HB2.out.trans hb3)
      have HRF : Hid (Row w3.heap.size w3 (.slice (some ⟨w.heap.size, 0, none⟩) m m) ((srt X).map (Value.int .u32))) := hide (by
        refine ⟨some ⟨w.heap.size, 0, none⟩, m, by rw [List.length_map, srt_length, HXL.out], (fun h => by cases h), fun x hx j u hu => ?_⟩
        cases hx
        have hjl : j < (srt X).length := by
          by_cases hjl : j < (srt X).length
          · exact hjl
          · rw [List.getElem?_eq_none (by simpa using hjl)] at hu; cases hu
        rw [List.getElem?_map, List.getElem?_eq_getElem hjl] at hu
        simp only [Option.map_some, Option.some.injEq] at hu
        refine ⟨hl3, ?_⟩
        rw [add_plain, Nat.zero_add, hc3 j (by rw [srt_length, HXL.out] at hjl; exact hjl), ← hu, List.getD_eq_getElem?_getD, List.getElem?_eq_getElem hjl]
        rfl)
      have HE2 := hide (equal_rows _ _ _ _ (srt X) w3 HRF.out (HE.out.below (HB3.out.mono hC)) (by rw [srt_length, HXL.out]; omega))
      clear hb3 hl3 hc3 HSRT hcp
      go_wp2_with fail
      refine HE2.out.mono ?_
      rintro e w' ⟨rfl, q2, rfl⟩
      go_wp2_with fail
      go_ret
      exact ⟨rfl, below_drewN HB3.out q2⟩
end Go.Proofs.Ybulkbte
