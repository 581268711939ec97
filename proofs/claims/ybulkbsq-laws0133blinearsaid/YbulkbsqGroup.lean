import Derived.Test.YbulkbsqBase
namespace Go.Proofs.Ybulkbsq
open Go.RowKit Go.WideShapes

set_option maxHeartbeats 400000 in
theorem gl_only (a : Option Addr) (n c : Nat) (ss : List ByteArray) (B0 : Nat) (w : World) (hr : StrRow (· < B0) w a n ss) :
    Calls Yba.prog 15 #[.bool true, .slice a n c] w fun e w' => ∃ g, e = .returned (.func (.func 23) #[] #[.pointer (some ⟨g, 0, none⟩)]) ∧ w.heap.size ≤ g ∧ g < w'.heap.size ∧
      Bound (fun k => k < B0 ∨ w.heap.size ≤ k) w' g ss ∧ Below w.heap.size w w' := by
  have hb : Below w.heap.size w (w.alloc (.cells #[.slice a n c] 22)) := (Below.refl _ _).alloc (Nat.le_refl _) _
  have hfin : Bound (fun k => k < B0 ∨ w.heap.size ≤ k) (w.alloc (.cells #[.slice a n c] 22)) w.heap.size ss := ⟨a, n, c, by simp, (hr.mono (fun k h => .inl h)).below hb (Nat.le_refl _)⟩
  clear hr
  go_enter Yba.func15, Yba.ntmps15
  go_wp2
  go_ret
  exact ⟨w.heap.size, rfl, Nat.le_refl _, by simp, hfin, hb⟩

/-- The cells of a row of strings. -/
theorem StrRow.news {ok : Nat → Prop} {w : World} {x : Addr} {n : Nat} {ss : List ByteArray} (h : StrRow ok w (some x) n ss) :
    ∀ j u, (ss.map Value.string)[j]? = some u → w.cell? (x.add j) = some u := by
  intro j u hj
  rw [List.getElem?_map] at hj
  have hlt : j < ss.length := by
    by_cases hc : j < ss.length
    · exact hc
    · rw [List.getElem?_eq_none (by omega)] at hj; simp at hj
  rcases h.2 with h0 | ⟨b, off, hx, _, hc⟩
  · have := h.1; omega
  · cases hx
    have := hc j (by have := h.1; omega)
    rw [List.getElem?_eq_getElem hlt] at hj
    simp at hj
    rw [add_plain, this, ← hj]
    simp [hlt]

theorem drop_end {w w2 w3 : World} {n B0 : Nat} {ss : List ByteArray} {v' : Value} (hlen : ss.length = n) (hb2 : Below w.heap.size w w2) (hg : w2.grownBy w3 (some (w.heap.size + 1))) (hown : w3.ownsRow w.heap.size 9 1 v' (1 + n) ([.string MN] ++ ss.map Value.string)) :
    ∃ g cap, v' = .slice (some ⟨g, 0, none⟩) (1 + n) cap ∧ Bound (fun k => k < B0 ∨ w.heap.size ≤ k) (w3.alloc (.cells #[v'] 22)) w3.heap.size (MN :: ss) ∧ Below w.heap.size w (w3.alloc (.cells #[v'] 22)) ∧ w.heap.size ≤ w3.heap.size := by
  have hb3 : Below w.heap.size w w3 := hb2.grown hg hb2.size (fun k hk => by cases hk; omega)
  have hown2 := hown
  rcases hown.2 with ⟨_, h0⟩ | ⟨g, cap, cur, hv, hbase, hcur, _, _, _, _⟩
  · omega
  · refine ⟨g, cap, hv, ?_, hb3.alloc hb3.size _, hb3.size⟩
    refine ⟨some ⟨g, 0, none⟩, 1 + n, cap, by simp [hv], ?_⟩
    refine ⟨by simp [hlen]; omega, .inr ⟨g, 0, rfl, .inr hbase, fun i hi => ?_⟩⟩
    have hc := hown2.cells (g := g) (by rw [hv]; rfl) i (.string ((MN :: ss).getD i ByteArray.empty)) (by
      cases i with
      | zero => simp
      | succ k => simp [List.getElem?_eq_getElem (show k < ss.length by omega)])
    have hlt : g < w3.heap.size := (Array.getElem?_eq_some_iff.1 hcur).1
    rw [← hc, add_plain]
    exact (Below.cell ((Below.refl w3.heap.size w3).alloc (Nat.le_refl _) _) (p := ⟨g, 0 + i, none⟩) hlt)

set_option maxHeartbeats 400000 in
set_option maxRecDepth 100000 in
theorem gl_drop (a : Option Addr) (n c : Nat) (ss : List ByteArray) (B0 : Nat) (w : World) (hn : n ≤ 1024) (hr : StrRow (· < B0) w a n ss) (hnil : a = none → n = 0 ∧ c = 0) :
    Calls Yba.prog 15 #[.bool false, .slice a n c] w fun e w' => ∃ g, e = .returned (.func (.func 25) #[] #[.pointer (some ⟨g, 0, none⟩)]) ∧ w.heap.size ≤ g ∧ g < w'.heap.size ∧
      Bound (fun k => k < B0 ∨ w.heap.size ≤ k) w' g (MN :: ss) ∧ Below w.heap.size w w' := by
  obtain ⟨i0, hi, hz0, hz1, hz2⟩ := info_parts Yba.info9
  have hb2 : Below w.heap.size w ((w.alloc (.cells #[.slice a n c] 22)).alloc (.cells #[.string MN] 9)) := ((Below.refl _ _).alloc (Nat.le_refl _) _).alloc (by simp) _
  have hown : ((w.alloc (.cells #[.slice a n c] 22)).alloc (.cells #[.string MN] 9)).ownsRow w.heap.size 9 1 (.slice (some ⟨w.heap.size + 1, 0, none⟩) 1 1) 1 [.string MN] :=
    ⟨rfl, .inr ⟨w.heap.size + 1, 1, #[.string MN], rfl, by omega, heap_alloc2_new _ _ _, by omega, by decide, rfl, rfl⟩⟩
  cases a with
  | none =>
    obtain ⟨rfl, rfl⟩ := hnil rfl
    have hss : ss = [] := List.eq_nil_of_length_eq_zero hr.1
    subst hss
    have hfin := drop_end (B0 := B0) (ss := []) rfl hb2 ⟨rfl, rfl, rfl, Nat.le_refl _, fun _ _ _ => rfl⟩ hown
    obtain ⟨g, cap, hv, h1, h2, h3⟩ := hfin
    rw [show ((w.alloc (.cells #[.slice none 0 0] 22)).alloc (.cells #[.string MN] 9)).heap.size = w.heap.size + 1 + 1 by simp] at h1
    have H1 := hide h1
    have H2 := hide h2
    clear h1 h2 hv hown hb2 hr hnil
    go_enter Yba.func15, Yba.ntmps15
    go_wp2
    go_ret
    exact ⟨w.heap.size + 1 + 1, rfl, by omega, by simp, H1.out, H2.out⟩
  | some x =>
    have hnews := (hr.below hb2 (Nat.le_refl _)).news
    have hlen := hr.1
    clear hr hnil
    go_enter Yba.func15, Yba.ntmps15
    go_wp2_with (at_builtin; refine wpList_append_own _ rfl (.tmp 8) (.tmp 9) 22 rfl w.heap.size 9 i0 (.string ByteArray.empty) 1 16 Yba.underlying22 hi hz0 hz1 hz2 rfl (by decide) _ _ _ rfl hown x n c (ss.map Value.string) rfl (by simp [hlen]) hnews (by intro u hu; simp at hu; obtain ⟨q, _, rfl⟩ := hu; rfl) (by unfold maxLen; omega) (by omega) (by simp; omega) ?_; intro v' w3 hown3 hgrow3 _; obtain ⟨g, cap, hv, h1, h2, h3⟩ := drop_end (B0 := B0) hlen hb2 hgrow3 hown3; rw [hv] at h1 h2 ⊢; have H1 := hide h1; have H2 := hide h2; clear h1 h2 hown hown3 hgrow3 hb2 hnews hlen hv)
    go_ret
    exact ⟨w3.heap.size, rfl, by omega, by simp, H1.out, H2.out⟩
end Go.Proofs.Ybulkbsq
