/- LawS0133AGrouping: the row. -/
import Derived.Test.YbulkbsqGrouping
import Derived.Test.YbulkbsqArgs
namespace Go.Proofs.Ybulkbsq.Grouping
open Go.RowKit Go.WideShapes

set_option maxHeartbeats 1000000 in
set_option maxRecDepth 100000 in
theorem long_names (sel : Int) (wo : Bool) (na : Option Addr) (nn nc : Nat) (la : Option Addr) (ln lc : Nat) (w : World) (h : 1024 < nn) :
    Calls Yba.prog 5 #[.int .u8 sel, .bool wo, .slice na nn nc, .slice la ln lc] w fun e w' => e = .returned (.bool true) ∧ Below w.heap.size w w' := by
  have hg : (1024 : Int) < (nn : Int) := by omega
  go_enter Yba.func5, Yba.ntmps5
  go_wp2
  go_ret
  exact ⟨rfl, Below.refl _ _⟩

set_option maxHeartbeats 1000000 in
set_option maxRecDepth 100000 in
theorem long_labels (sel : Int) (wo : Bool) (na : Option Addr) (nn nc : Nat) (la : Option Addr) (ln lc : Nat) (w : World) (hn : nn ≤ 1024) (h : 1024 < ln) :
    Calls Yba.prog 5 #[.int .u8 sel, .bool wo, .slice na nn nc, .slice la ln lc] w fun e w' => e = .returned (.bool true) ∧ Below w.heap.size w w' := by
  have hg0 : ¬ (1024 : Int) < (nn : Int) := by omega
  have hg : (1024 : Int) < (ln : Int) := by omega
  go_enter Yba.func5, Yba.ntmps5
  go_wp2
  go_ret
  exact ⟨rfl, Below.refl _ _⟩

theorem walk (sel : Int) (wo : Bool) (na : Option Addr) (nn nc : Nat) (la : Option Addr) (ln lc : Nat) (ss : List ByteArray) (ls : List Lb) (w : World) (h0 : 0 ≤ sel) (h1 : sel ≤ 255)
    (hs : StrRow (· < w.heap.size) w na nn ss) (hnil : na = none → nn = 0 ∧ nc = 0) (hl : LabRow (· < w.heap.size) w la ln ls) :
    Calls Yba.prog 5 #[.int .u8 sel, .bool wo, .slice na nn nc, .slice la ln lc] w fun e w' => e = .returned (.bool true) ∧ Below w.heap.size w w' := by
  by_cases hn : 1024 < nn
  · exact long_names sel wo na nn nc la ln lc w hn
  by_cases hl2 : 1024 < ln
  · exact long_labels sel wo na nn nc la ln lc w (by omega) hl2
  cases wo
  · exact grouping_false sel na nn nc la ln lc ss ls w h0 h1 (by omega) (by omega) hs hnil hl
  · exact grouping_true sel na nn nc la ln lc ss ls w h0 h1 (by omega) (by omega) hs hnil hl

theorem own : ownKnob Yba.prog.godebug = none := by kernel_rfl
theorem laidOut : laidOutB Yba.prog = true := by kernel_rfl

open Go.ChangeShapes Go.ChangeAt in
set_option maxRecDepth 100000 in
theorem lifted (os : Os) (started : os.Started) (H : Type) (enc : TypeId × Value → H) :
    ReturnsInHanded {} Yba.checked os 5 .any (Rows.lawS0133AGroupingSpec.pre6 enc Yba.prog Yba.f5 Rows.lawS0133AGroupingRow.domain false) (Rows.lawS0133AGroupingSpec.post enc Yba.prog Yba.f5 false true false false) := by
  refine returnsInHanded_of_change (C := Yba.checked) own started (by kernel_rfl) Yba.func5
    (ChangeSpec.witness6 (enc := enc) (C := Yba.checked) false ⟨#[], #[.int .u8 0, .bool false, .slice none 0 0, .slice none 0 0], []⟩ 8 (by kernel_rfl) (by kernel_rfl) (by kernel_rfl) (by kernel_rfl)) ?_
  intro W base args ds gs before hval0 hW hcnd _
  have hval : ∀ (j : Nat) t v, Yba.f5.params[j]? = some t → args[j]? = some v → Value.okWide Yba.prog W .any base t v := hval0
  have hW' := hW
  obtain ⟨p, q, hA0, hV, rfl, hfz, hnd⟩ := hW
  have hA : DataW.TrodAll enc Yba.prog W 0 (fun _ => true) true Yba.f5.params.toList args.toList ds p := hA0
  rw [Yba.params5] at hA hval
  obtain ⟨v0, vs0, d0, ds0, p0, q0, hargs, rfl, rfl, h0, r0⟩ := trodAll_cons hA
  obtain ⟨v1, vs1, d1, ds1, p1, q1, rfl, rfl, rfl, h1, r1⟩ := trodAll_cons r0
  obtain ⟨v2, vs2, d2, ds2, p2, q2, rfl, rfl, rfl, h2, r2⟩ := trodAll_cons r1
  obtain ⟨v3, vs3, d3, ds3, p3, q3, rfl, rfl, rfl, h3, r3⟩ := trodAll_cons r2
  obtain ⟨rfl, rfl, rfl⟩ := trodAll_nil r3
  obtain rfl : args = #[v0, v1, v2, v3] := by cases args; simp_all
  obtain ⟨rfl, rfl⟩ := trodVars_none hV
  obtain ⟨a0, rfl, rfl, rfl, w0⟩ := open_int Yba.underlying5 (hval 0 5 v0 rfl rfl) h0
  obtain ⟨a1, rfl, rfl, rfl⟩ := open_bool Yba.underlying4 (hval 1 4 v1 rfl rfl) h1
  obtain ⟨a2, len2, cap2, rfl⟩ := okWide_slice Yba.underlying22 (hval 2 22 v2 rfl rfl)
  obtain ⟨a3, len3, cap3, rfl⟩ := okWide_slice Yba.underlying49 (hval 3 49 v3 rfl rfl)
  have lt2 : ∀ x ∈ p2, x.block < W.heap.size := by obtain ⟨m, hm⟩ := h2; exact DataW.trod_lt m _ _ _ hm
  have lt3 : ∀ x ∈ p3, x.block < W.heap.size := by obtain ⟨m, hm⟩ := h3; exact DataW.trod_lt m _ _ _ hm
  obtain ⟨ss, hss, hnil, _, _⟩ := strRow_of h2
  obtain ⟨ls, hls⟩ := labRow_of h3
  have hb0 := bounds_u8 w0
  clear hA0 hval0
  refine (walk a0 a1 a2 len2 cap2 a3 len3 cap3 ss ls W (by omega) (by omega) hss hnil hls).mono fun e W' ⟨he, bel⟩ => ?_
  subst he
  exact ⟨_, rfl, _, _, _, [], _, [], hW', trodAll_mk1 (shut_bool Yba.underlying4 _), (trodAll_cons_mk (shut_int Yba.underlying5 w0) (trodAll_cons_mk (shut_bool Yba.underlying4 _) (trodAll_cons_mk (Below.trod laidOut (by kernel_rfl) (of_decide_eq_true (by kernel_rfl)) h2 bel lt2) (trodAll_cons_mk (Below.trod laidOut (by kernel_rfl) (of_decide_eq_true (by kernel_rfl)) h3 bel lt3) trodAll_mk0)))), rfl, bel.frame _, fun h => by cases h⟩

theorem over : Rows.lawS0133AGroupingRow.holds Yba.pinned (OpenSpec.ofChange Rows.lawS0133AGroupingSpec) :=
  OpenClaim.holds_of_wide 5 Yba.f5 rfl rfl rfl rfl rfl rfl rfl ⟨rfl, rfl, rfl, rfl, rfl⟩ rfl rfl rfl rfl rfl (by kernel_rfl) Yba.func5 (by kernel_rfl)
    (of_decide_eq_true (by kernel_rfl)) (by unfold Func.isWrapper; first | (rw [if_pos (by decide +kernel)]; kernel_rfl) | (rw [if_neg (by decide +kernel)]; exact ⟨rfl, rfl⟩))
    (fun os started H enc _ => lifted os started H enc)

theorem grouping_proved : Rows.LawS0133AGroupingSaid := over
end Go.Proofs.Ybulkbsq.Grouping
