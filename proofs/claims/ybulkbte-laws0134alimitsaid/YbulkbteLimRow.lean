/- LawS0134ALimit: the row. -/
import Derived.Test.YbulkbteLim
import Derived.Test.YbulkbteArgsR
namespace Go.Proofs.Ybulkbte.Lim
open Go.RowKit Go.WideShapes

theorem own : ownKnob Yba.prog.godebug = none := by kernel_rfl
theorem laidOut : laidOutB Yba.prog = true := by kernel_rfl

theorem u8_bounds {b : Int} (h : (Lit.int .u8 b).wf = true) : 0 ≤ b ∧ b ≤ 255 := by
  simp [Lit.wf] at h
  exact h
theorem i64_bounds {b : Int} (h : (Lit.int .i64 b).wf = true) : -9223372036854775808 ≤ b ∧ b ≤ 9223372036854775807 := by
  simp [Lit.wf] at h
  exact h

section
open Go.ChangeShapes Go.ChangeAt
set_option linter.unusedVariables false
set_option maxRecDepth 100000 in
theorem lifted (os : Os) (started : os.Started) (H : Type) (enc : TypeId × Value → H) :
    ReturnsInHanded {} Yba.checked os 4 .any (Rows.lawS0134ALimitSpec.pre6 enc Yba.prog Yba.f4 Rows.lawS0134ALimitRow.domain false) (Rows.lawS0134ALimitSpec.post enc Yba.prog Yba.f4 false true false false) := by
  refine returnsInHanded_of_change (C := Yba.checked) own started (by kernel_rfl) Yba.func4
    (ChangeSpec.witness6 (enc := enc) (C := Yba.checked) false ⟨#[], #[.slice none 0 0, .slice none 0 0, .slice none 0 0, .slice none 0 0, .int .i64 0], []⟩ 8 (by kernel_rfl) (by kernel_rfl) (by kernel_rfl) (by kernel_rfl)) ?_
  intro W base args ds gs before hval0 hW hcnd _
  have hval : ∀ (j : Nat) t v, Yba.f4.params[j]? = some t → args[j]? = some v → Value.okWide Yba.prog W .any base t v := hval0
  have hW' := hW
  obtain ⟨p, q, hA0, hV, rfl, hfz, hnd⟩ := hW
  have hA : DataW.TrodAll enc Yba.prog W 0 (fun _ => true) true Yba.f4.params.toList args.toList ds p := hA0
  rw [Yba.params4] at hA hval
  obtain ⟨v0, vs0, d0, ds0, p0, q0, hargs, rfl, rfl, h0, r0⟩ := trodAll_cons hA
  obtain ⟨v1, vs1, d1, ds1, p1, q1, rfl, rfl, rfl, h1, r1⟩ := trodAll_cons r0
  obtain ⟨v2, vs2, d2, ds2, p2, q2, rfl, rfl, rfl, h2, r2⟩ := trodAll_cons r1
  obtain ⟨v3, vs3, d3, ds3, p3, q3, rfl, rfl, rfl, h3, r3⟩ := trodAll_cons r2
  obtain ⟨v4, vs4, d4, ds4, p4, q4, rfl, rfl, rfl, h4, r4⟩ := trodAll_cons r3
  obtain ⟨rfl, rfl, rfl⟩ := trodAll_nil r4
  obtain rfl : args = #[v0, v1, v2, v3, v4] := by cases args; simp_all
  obtain ⟨rfl, rfl⟩ := trodVars_none hV
  obtain ⟨a0, len0, cap0, rfl⟩ := okWide_slice Yba.underlying22 (hval 0 22 v0 rfl rfl)
  obtain ⟨a1, len1, cap1, rfl⟩ := okWide_slice Yba.underlying23 (hval 1 23 v1 rfl rfl)
  obtain ⟨a2, len2, cap2, rfl⟩ := okWide_slice Yba.underlying24 (hval 2 24 v2 rfl rfl)
  obtain ⟨a3, len3, cap3, rfl⟩ := okWide_slice Yba.underlying23 (hval 3 23 v3 rfl rfl)
  obtain ⟨a4, rfl, rfl, rfl, w4⟩ := open_int Yba.underlying3 (hval 4 3 v4 rfl rfl) h4
  have lt0 : ∀ x ∈ p0, x.block < W.heap.size := by obtain ⟨m, hm⟩ := h0; exact DataW.trod_lt m _ _ _ hm
  have lt1 : ∀ x ∈ p1, x.block < W.heap.size := by obtain ⟨m, hm⟩ := h1; exact DataW.trod_lt m _ _ _ hm
  have lt2 : ∀ x ∈ p2, x.block < W.heap.size := by obtain ⟨m, hm⟩ := h2; exact DataW.trod_lt m _ _ _ hm
  have lt3 : ∀ x ∈ p3, x.block < W.heap.size := by obtain ⟨m, hm⟩ := h3; exact DataW.trod_lt m _ _ _ hm
  obtain ⟨n, A, Sb, hin, hb8⟩ : ∃ (n : Nat) (A Sb : Nat → List Int), InSets W.heap.size W (.slice a0 len0 cap0) n A Sb ∧ ∀ i, i < n → ∀ b ∈ Sb i, (Lit.int .u8 b).wf = true := by
    obtain ⟨fuel, hf⟩ := h0
    exact sets_of hf
  obtain ⟨TA, hra, _⟩ : ∃ zs : List Int, Row W.heap.size W (.slice a1 len1 cap1) (zs.map (Value.int .u32)) ∧ ∀ z ∈ zs, (Lit.int .u32 z).wf = true := by
    obtain ⟨fuel, hf⟩ := h1
    exact row_of Yba.underlying23 Yba.underlying25 (by kernel_rfl) hf
  obtain ⟨Tb, hrs, ht8⟩ : ∃ zs : List Int, Row W.heap.size W (.slice a2 len2 cap2) (zs.map (Value.int .u8)) ∧ ∀ z ∈ zs, (Lit.int .u8 z).wf = true := by
    obtain ⟨fuel, hf⟩ := h2
    exact row_of Yba.underlying24 Yba.underlying5 (by kernel_rfl) hf
  obtain ⟨oz, hro, _⟩ : ∃ zs : List Int, Row W.heap.size W (.slice a3 len3 cap3) (zs.map (Value.int .u32)) ∧ ∀ z ∈ zs, (Lit.int .u32 z).wf = true := by
    obtain ⟨fuel, hf⟩ := h3
    exact row_of Yba.underlying23 Yba.underlying25 (by kernel_rfl) hf
  have hb4 := i64_bounds w4
  clear hA0 hval0
  refine (lim_walk n A Sb TA Tb oz (.slice a0 len0 cap0) (.slice a1 len1 cap1) (.slice a2 len2 cap2) (.slice a3 len3 cap3) a4 W hb4.1 hb4.2 hin hra hrs hro (fun i hi b hb => u8_bounds (hb8 i hi b hb)) (fun b hb => u8_bounds (ht8 b hb))).mono fun e W' ⟨he, bel⟩ => ?_
  subst he
  exact ⟨_, rfl, _, _, _, [], _, [], hW', trodAll_mk1 (shut_bool Yba.underlying4 _), (trodAll_cons_mk (Below.trod laidOut (by kernel_rfl) (of_decide_eq_true (by kernel_rfl)) h0 bel lt0) (trodAll_cons_mk (Below.trod laidOut (by kernel_rfl) (of_decide_eq_true (by kernel_rfl)) h1 bel lt1) (trodAll_cons_mk (Below.trod laidOut (by kernel_rfl) (of_decide_eq_true (by kernel_rfl)) h2 bel lt2) (trodAll_cons_mk (Below.trod laidOut (by kernel_rfl) (of_decide_eq_true (by kernel_rfl)) h3 bel lt3) (trodAll_cons_mk (shut_int Yba.underlying3 w4) trodAll_mk0))))), rfl, bel.frame _, fun h => by cases h⟩

theorem over : Rows.lawS0134ALimitRow.holds Yba.pinned (OpenSpec.ofChange Rows.lawS0134ALimitSpec) :=
  OpenClaim.holds_of_wide 4 Yba.f4 rfl rfl rfl rfl rfl rfl rfl ⟨rfl, rfl, rfl, rfl, rfl⟩ rfl rfl rfl rfl rfl (by kernel_rfl) Yba.func4 (by kernel_rfl)
    (of_decide_eq_true (by kernel_rfl)) (by unfold Func.isWrapper; first | (rw [if_pos (by decide +kernel)]; kernel_rfl) | (rw [if_neg (by decide +kernel)]; exact ⟨rfl, rfl⟩))
    (fun os started H enc _ => lifted os started H enc)

theorem limit_proved : Rows.LawS0134ALimitSaid := over
end
end Go.Proofs.Ybulkbte.Lim
