/- LawS0133ABetter: the walks and the row. -/
import Derived.Test.YbulkbsqParts
import Derived.ProofKit
import Derived.OpenShut
import Derived.ShutString
import Derived.ChangeOld
namespace Go.Proofs.Ybulkbsq
open Go.RowKit Go.WideShapes

theorem na_rank (op k : Nat) (hop : (op = 8 ∧ k = 16) ∨ (op = 9 ∧ k = 17)) (w : World) (pe px : Nat) (hpe : pe < w.heap.size)
    (h0 : w.cell? ⟨pe, 0, none⟩ = some (.int .i64 op)) (h2 : w.cell? ⟨pe, 2, none⟩ = some (.bool false)) (h3 : w.cell? ⟨pe, 3, none⟩ = some (.slice none 0 0)) :
    Calls Yba.prog 7 #[.pointer (some ⟨pe, 0, none⟩), .nilIface, .iface 29 (.pointer (some ⟨px, 0, none⟩))] w fun e w' => ∃ r g, e = .returned (.iface 61 (.pointer (some ⟨r, 0, none⟩))) ∧ r < w'.heap.size ∧ Below w.heap.size w w' ∧
      w'.cell? ⟨r, 0, none⟩ = some (.pointer (some ⟨pe, 0, none⟩)) ∧ w'.cell? ⟨r, 1, none⟩ = some .nilIface ∧ w'.cell? ⟨r, 2, none⟩ = some (.iface 29 (.pointer (some ⟨px, 0, none⟩))) ∧ w'.cell? ⟨r, 3, none⟩ = some (.func (.func k) #[] #[]) ∧ GroupAt w' r 4 false g := by
  refine (na_any op false none 0 0 [] w pe px hpe (by omega) ⟨rfl, .inl rfl⟩ (fun _ => ⟨rfl, rfl⟩) h0 h2 h3).mono ?_
  rintro e w' ⟨r, g, hr, _, hb, c0, c1, c2, hc⟩
  rcases hop with ⟨rfl, rfl⟩ | ⟨rfl, rfl⟩
  · rcases hc with ⟨_, he, h3, hG⟩ | ⟨h, _⟩ | ⟨h, _⟩ | ⟨⟨h, _⟩, _⟩
    · exact ⟨r, g, he, hr, hb, c0, c1, c2, h3, hG⟩
    · simp at h
    · simp at h
    · simp at h
  · rcases hc with ⟨h, _⟩ | ⟨_, he, h3, hG⟩ | ⟨h, _⟩ | ⟨⟨_, h, _⟩, _⟩
    · simp at h
    · exact ⟨r, g, he, hr, hb, c0, c1, c2, h3, hG⟩
    · simp at h
    · simp at h

set_option maxHeartbeats 1000000 in
set_option maxRecDepth 100000 in
theorem better_top (x y : Nat) (w : World) :
    Calls Yba.prog 4 #[.bool true, .float .f64 x, .float .f64 y] w fun e w' => e = .returned (.bool true) ∧ Below w.heap.size w w' := by
  have hna := na_rank 8 16 (.inl ⟨rfl, rfl⟩) ((w.alloc (.cells #[.int .i64 8, .nilIface, .bool false, .slice none 0 0, .nilIface] 28)).alloc (.cells #[.int .i64 0] 31)) w.heap.size (w.heap.size + 1) (by simp; omega) (by simp) (by simp) (by simp)
  have HNA := hide hna
  clear hna
  have hfn : ∀ w, (binOp .eql 43 (.func (.func 16) #[] #[]) .nilFunc).run Yba.prog w = .ok (.bool false) w := fun _ => by kernel_rfl
  go_enter Yba.func4, Yba.ntmps4
  go_wp2_with fail
  refine HNA.out.mono ?_
  rintro e w1 ⟨r, g, rfl, hr, hb1, c0, c1, c2, c3, hG⟩
  have hb : Below w.heap.size w w1 := (((Below.refl _ w).alloc (Nat.le_refl _) _).alloc (by simp) _).trans (hb1.mono (by simp; omega))
  have HB := hide hb
  have HP := hide (parts_rank w1 r w.heap.size (w.heap.size + 1) g 16 false hr c0 c1 c2 c3 hG)
  clear hb hb1 c0 c1 c2 c3 hG HNA hr
  go_wp2_with fail
  refine HP.out.mono ?_
  rintro e w2 ⟨rfl, hb2⟩
  have HB2 := hide ((HB.out.trans (hb2.mono HB.out.size)).alloc (Nat.le_trans HB.out.size hb2.size) (.cells #[.func (.func (byFn false)) #[] #[.pointer (some ⟨g, 0, none⟩)], .map none, .slice none 0 0, .slice none 0 0] 42))
  clear hb2 HP HB
  go_wp2
  go_ret
  exact ⟨by simp, HB2.out⟩

set_option maxHeartbeats 1000000 in
set_option maxRecDepth 100000 in
theorem better_bottom (x y : Nat) (w : World) :
    Calls Yba.prog 4 #[.bool false, .float .f64 x, .float .f64 y] w fun e w' => e = .returned (.bool true) ∧ Below w.heap.size w w' := by
  have hna := na_rank 9 17 (.inr ⟨rfl, rfl⟩) ((w.alloc (.cells #[.int .i64 9, .nilIface, .bool false, .slice none 0 0, .nilIface] 28)).alloc (.cells #[.int .i64 0] 31)) w.heap.size (w.heap.size + 1) (by simp; omega) (by simp) (by simp) (by simp)
  have HNA := hide hna
  clear hna
  have hfn : ∀ w, (binOp .eql 43 (.func (.func 17) #[] #[]) .nilFunc).run Yba.prog w = .ok (.bool false) w := fun _ => by kernel_rfl
  go_enter Yba.func4, Yba.ntmps4
  go_wp2_with fail
  refine HNA.out.mono ?_
  rintro e w1 ⟨r, g, rfl, hr, hb1, c0, c1, c2, c3, hG⟩
  have hb : Below w.heap.size w w1 := (((Below.refl _ w).alloc (Nat.le_refl _) _).alloc (by simp) _).trans (hb1.mono (by simp; omega))
  have HB := hide hb
  have HP := hide (parts_rank w1 r w.heap.size (w.heap.size + 1) g 17 false hr c0 c1 c2 c3 hG)
  clear hb hb1 c0 c1 c2 c3 hG HNA hr
  go_wp2_with fail
  refine HP.out.mono ?_
  rintro e w2 ⟨rfl, hb2⟩
  have HB2 := hide ((HB.out.trans (hb2.mono HB.out.size)).alloc (Nat.le_trans HB.out.size hb2.size) (.cells #[.func (.func (byFn false)) #[] #[.pointer (some ⟨g, 0, none⟩)], .map none, .slice none 0 0, .slice none 0 0] 42))
  clear hb2 HP HB
  go_wp2
  go_ret
  exact ⟨by simp, HB2.out⟩


theorem better_any (t : Bool) (x y : Nat) (w : World) :
    Calls Yba.prog 4 #[.bool t, .float .f64 x, .float .f64 y] w fun e w' => e = .returned (.bool true) ∧ Below w.heap.size w w' := by
  cases t
  · exact better_bottom x y w
  · exact better_top x y w

theorem own : ownKnob Yba.prog.godebug = none := by kernel_rfl
theorem laidOut : laidOutB Yba.prog = true := by kernel_rfl

open Go.ChangeShapes Go.ChangeAt in
set_option maxRecDepth 100000 in
theorem better_lifted (os : Os) (started : os.Started) (H : Type) (enc : TypeId × Value → H) :
    ReturnsInHanded {} Yba.checked os 4 .any (Rows.lawS0133ABetterSpec.pre6 enc Yba.prog Yba.f4 Rows.lawS0133ABetterRow.domain false) (Rows.lawS0133ABetterSpec.post enc Yba.prog Yba.f4 false true false false) := by
  refine returnsInHanded_of_change (C := Yba.checked) own started (by kernel_rfl) Yba.func4
    (ChangeSpec.witness6 (enc := enc) (C := Yba.checked) false ⟨#[], #[.bool false, .float .f64 0, .float .f64 0], []⟩ 8 (by kernel_rfl) (by kernel_rfl) (by kernel_rfl) (by kernel_rfl)) ?_
  intro W base args ds gs before hval0 hW hcnd _
  have hval : ∀ (j : Nat) t v, Yba.f4.params[j]? = some t → args[j]? = some v → Value.okWide Yba.prog W .any base t v := hval0
  have hW' := hW
  obtain ⟨p, q, hA0, hV, rfl, hfz, hnd⟩ := hW
  have hA : DataW.TrodAll enc Yba.prog W 0 (fun _ => true) true Yba.f4.params.toList args.toList ds p := hA0
  rw [Yba.params4] at hA hval
  obtain ⟨v0, vs0, d0, ds0, p0, q0, hargs, rfl, rfl, h0, r0⟩ := trodAll_cons hA
  obtain ⟨v1, vs1, d1, ds1, p1, q1, rfl, rfl, rfl, h1, r1⟩ := trodAll_cons r0
  obtain ⟨v2, vs2, d2, ds2, p2, q2, rfl, rfl, rfl, h2, r2⟩ := trodAll_cons r1
  obtain ⟨rfl, rfl, rfl⟩ := trodAll_nil r2
  obtain rfl : args = #[v0, v1, v2] := by cases args; simp_all
  obtain ⟨rfl, rfl⟩ := trodVars_none hV
  obtain ⟨a0, rfl, rfl, rfl⟩ := open_bool Yba.underlying4 (hval 0 4 v0 rfl rfl) h0
  obtain ⟨a1, rfl, rfl, rfl, w1⟩ := open_float Yba.underlying47 (hval 1 47 v1 rfl rfl) h1
  obtain ⟨a2, rfl, rfl, rfl, w2⟩ := open_float Yba.underlying47 (hval 2 47 v2 rfl rfl) h2
  clear hA0 hval0
  refine (better_any a0 a1 a2 W).mono fun e W' ⟨he, bel⟩ => ?_
  subst he
  exact ⟨_, rfl, _, _, _, [], _, [], hW', trodAll_mk1 (shut_bool Yba.underlying4 _), (trodAll_cons_mk (shut_bool Yba.underlying4 _) (trodAll_cons_mk (shut_float Yba.underlying47 w1) (trodAll_cons_mk (shut_float Yba.underlying47 w2) trodAll_mk0))), rfl, bel.frame _, fun h => by cases h⟩

theorem better_over : Rows.lawS0133ABetterRow.holds Yba.pinned (OpenSpec.ofChange Rows.lawS0133ABetterSpec) :=
  OpenClaim.holds_of_wide 4 Yba.f4 rfl rfl rfl rfl rfl rfl rfl ⟨rfl, rfl, rfl, rfl, rfl⟩ rfl rfl rfl rfl rfl (by kernel_rfl) Yba.func4 (by kernel_rfl)
    (of_decide_eq_true (by kernel_rfl)) (by unfold Func.isWrapper; first | (rw [if_pos (by decide +kernel)]; kernel_rfl) | (rw [if_neg (by decide +kernel)]; exact ⟨rfl, rfl⟩))
    (fun os started H enc _ => better_lifted os started H enc)

theorem better_proved : Rows.LawS0133ABetterSaid := better_over
end Go.Proofs.Ybulkbsq
