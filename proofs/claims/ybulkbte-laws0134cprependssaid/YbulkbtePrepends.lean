/- LawS0134CPrepends: the walks and the row. -/
import Derived.Test.YbulkbtePath
import Derived.ProofKit
import Derived.OpenShut
import Derived.ShutString
import Derived.ChangeOld
namespace Go.Proofs.Ybulkbte
open Go.RowKit Go.WideShapes

theorem i32s_one (zs : List Int) : ∀ v ∈ i32s zs, v.oneCell' = true := by
  intro v hv
  unfold i32s at hv
  simp at hv
  obtain ⟨z, _, rfl⟩ := hv
  rfl

theorem i32s_at (zs : List Int) (n k : Nat) (hk : k < n) (hz : n ≤ zs.length) : ∃ h : k < (i32s (zs.take n)).length, (i32s (zs.take n))[k] = .int .i32 (zs.getD k 0) := by
  unfold i32s
  refine ⟨by simp; omega, ?_⟩
  simp [List.getElem?_eq_getElem (show k < zs.length by omega)]

theorem run_nil52 (ra : Option Addr) (n c : Nat) (wx : World) : (binOp .eql 52 (.slice ra n c) (.slice none 0 0)).run Yba.prog wx = .ok (.bool ra.isNone) wx := Lib.run_eql_slice_nil (P := Yba.prog) wx 52 57 ra n c 0 0 Yba.underlying52
theorem run_nil50 (ra : Option Addr) (n c : Nat) (wx : World) : (binOp .eql 50 (.slice ra n c) (.slice none 0 0)).run Yba.prog wx = .ok (.bool ra.isNone) wx := Lib.run_eql_slice_nil (P := Yba.prog) wx 50 21 ra n c 0 0 Yba.underlying50

/-- What the loop of Prepends reads: r's block R, got's block G, the two rows. -/
structure SeenP (W : World) (b off len R G P g : Nat) (zs : List Int) (tv rst hst : Int) : Prop where
  r0 : W.cell? ⟨R, 0, none⟩ = some (.slice (some ⟨P, 0, none⟩) len len)
  r1 : W.cell? ⟨R, 1, none⟩ = some (.int .i64 rst)
  g0 : W.cell? ⟨G, 0, none⟩ = some (.slice (some ⟨g, 0, none⟩) (len + 1) (len + 1))
  g1 : W.cell? ⟨G, 1, none⟩ = some (.int .i64 hst)
  arg : ∀ i, i < len → W.cell? ⟨b, off + i, none⟩ = some (.int .i32 (zs.getD i 0))
  rp : ∀ i, i < len → W.cell? ⟨P, i, none⟩ = some (.int .i32 (zs.getD i 0))
  gp : ∀ i, i < len → W.cell? ⟨g, i + 1, none⟩ = some (.int .i32 (zs.getD i 0))

theorem SeenP.below {W W' : World} {b off len R G P g : Nat} {zs : List Int} {tv rst hst : Int} (h : SeenP W b off len R G P g zs tv rst hst) (hb : Below W.heap.size W W') : SeenP W' b off len R G P g zs tv rst hst :=
  ⟨by rw [hb.cell (cell_lt h.r0)]; exact h.r0, by rw [hb.cell (cell_lt h.r1)]; exact h.r1, by rw [hb.cell (cell_lt h.g0)]; exact h.g0, by rw [hb.cell (cell_lt h.g1)]; exact h.g1,
    fun i hi => by rw [hb.cell (cell_lt (h.arg i hi))]; exact h.arg i hi, fun i hi => by rw [hb.cell (cell_lt (h.rp i hi))]; exact h.rp i hi, fun i hi => by rw [hb.cell (cell_lt (h.gp i hi))]; exact h.gp i hi⟩

set_option maxHeartbeats 1000000 in
set_option maxRecDepth 100000 in
theorem prepends_pos (b off len cap : Nat) (zs : List Int) (tv rst hst : Int) (w : World) (h0 : IsRow .i32 w (some ⟨b, off, none⟩) len cap zs) (hz : len ≤ zs.length) (hpos : 0 < len) (hn : len ≤ 1024)
    (hb : b < w.heap.size) (hc : ∀ i, i < len → w.cell? ⟨b, off + i, none⟩ = some (.int .i32 (zs.getD i 0))) :
    Calls Yba.prog 5 #[.slice (some ⟨b, off, none⟩) len cap, .int .i32 tv, .int .i64 rst, .int .i64 hst] w fun e w' => e = .returned (.bool true) ∧ Below w.heap.size w w' := by
  have hng : ¬ (1024 : Int) < (len : Int) := by omega
  have HP := hide (cpath_one (some ⟨b, off, none⟩) len cap zs w h0 hn)
  have HC := hide hc
  have e1 := run_nil52
  have e2 := run_nil50
  clear hc h0
  go_enter Yba.func5, Yba.ntmps5
  go_wp2_with fail
  refine HP.out.mono ?_
  rintro e w1 ⟨ra, P, rfl, hra, hPge, hP, hb1⟩
  rcases hP with h | ⟨hra2, hblk⟩
  · exact absurd h (by omega)
  rw [hra2]
  have HQ := hide (passed_int (some ⟨P, 0, none⟩) len P (i32s (zs.take len)) rst tv hst (w1.alloc (.cells #[.slice (some ⟨P, 0, none⟩) len len, .int .i64 rst] 55)) hn (by simp [i32s]; omega) (i32s_one _) (.inr ⟨rfl, hblk.alloc _⟩))
  have HB1 := hide hb1
  have HPP := hide hblk
  clear hb1 hblk hra hra2 HP
  go_wp2_with fail
  refine HQ.out.mono ?_
  rintro e w2 ⟨g, rfl, hg, hbg, hb2⟩
  have hbw : Below w.heap.size w (w2.alloc (.cells #[.slice (some ⟨g, 0, none⟩) (len + 1) (len + 1), .int .i64 hst] 55)) :=
    ((HB1.out.alloc HB1.out.size _).trans (hb2.mono (by have := HB1.out.size; simp; omega))).alloc (by have := HB1.out.size; have := hb2.size; simp at this; omega) _
  have hseen : SeenP (w2.alloc (.cells #[.slice (some ⟨g, 0, none⟩) (len + 1) (len + 1), .int .i64 hst] 55)) b off len w1.heap.size w2.heap.size P g zs tv rst hst := by
    have hall := (Below.refl w2.heap.size w2).alloc (Nat.le_refl _) (.cells #[.slice (some ⟨g, 0, none⟩) (len + 1) (len + 1), .int .i64 hst] 55)
    have hr : Blk w2 w1.heap.size 55 [.slice (some ⟨P, 0, none⟩) len len, .int .i64 rst] := (Blk.new w1 55 [.slice (some ⟨P, 0, none⟩) len len, .int .i64 rst]).below hb2 (by simp)
    have hp : Blk w2 P 57 (i32s (zs.take len)) := (HPP.out.alloc _).below hb2 (by have := HPP.out.lt; simp; omega)
    have hr' := hr.alloc (.cells #[.slice (some ⟨g, 0, none⟩) (len + 1) (len + 1), .int .i64 hst] 55)
    have hp' := hp.alloc (.cells #[.slice (some ⟨g, 0, none⟩) (len + 1) (len + 1), .int .i64 hst] 55)
    have hg' := hbg.alloc (.cells #[.slice (some ⟨g, 0, none⟩) (len + 1) (len + 1), .int .i64 hst] 55)
    refine ⟨hr'.cell (i := 0) (by simp), hr'.cell (i := 1) (by simp), by simp, by simp, fun i hi => ?_, fun i hi => ?_, fun i hi => ?_⟩
    · rw [hbw.cell hb]; exact HC.out i hi
    · obtain ⟨h1, h2⟩ := i32s_at zs len i hi hz
      rw [hp'.cell h1, h2]
    · obtain ⟨h1, h2⟩ := i32s_at zs len i hi hz
      rw [hg'.cell (i := i + 1) (by simpa using h1)]
      simp [h2]
  have cg0 : (w2.alloc (.cells #[.slice (some ⟨g, 0, none⟩) (len + 1) (len + 1), .int .i64 hst] 55)).cell? ⟨g, 0, none⟩ = some (.int .i32 tv) := (hbg.alloc _).cell (i := 0) (by simp)
  have HSEEN := hide hseen
  have HBW := hide hbw
  clear hseen hbw hb2 hbg HQ HB1 HPP HC
  go_upto_region 5 with fail
  generalize (w2.alloc (.cells #[.slice (some ⟨g, 0, none⟩) (len + 1) (len + 1), .int .i64 hst] 55)) = W at *
  have g0 := HSEEN.out.g0
  go_wp2_with fail
  go_loopw [11] (fun i wr => ∃ k : Nat, k ≤ len ∧ i = .int .i64 k ∧ Below W.heap.size W wr) (fun i _ => len - (intOf i).toNat)
  case atStart => exact ⟨0, Nat.zero_le _, rfl, Below.refl _ _⟩
  case round =>
    obtain ⟨k, hk, rfl, hbr⟩ := hrel
    have hs := HSEEN.out.below hbr
    obtain ⟨hr0, hr1, hg0, hg1, harg, hrp, hgp⟩ := hs
    have HBR := hide hbr
    clear hbr g0 cg0
    by_cases hlt : k < len
    · have q1 := harg k hlt
      have q2 := hrp k hlt
      have q3 := hgp k hlt
      generalize zs.getD k 0 = z at q1 q2 q3
      have hk1 : (k : Int) < (len : Int) := by omega
      have hk2 : (k : Int) + 1 < (len : Int) + 1 := by omega
      clear harg hrp hgp
      go_wp2
      go_quiet (fail)
      go_wp2
      go_quiet (fail)
      go_wp2
      go_roundw
      case rel => exact ⟨k + 1, by omega, by go_num, below_drewN HBR.out _⟩
      case measure => simp [intOf]; omega
    · obtain rfl : k = len := by omega
      have e1 := run_nil52
      have e2 := run_nil50
      clear harg hrp hgp
      go_wp2
      go_ret
      exact ⟨by simp, HBW.out.trans (HBR.out.mono HBW.out.size)⟩
set_option maxHeartbeats 1000000 in
set_option maxRecDepth 100000 in
theorem prepends_zero (a : Option Addr) (cap : Nat) (zs : List Int) (tv rst hst : Int) (w : World) (h0 : IsRow .i32 w a 0 cap zs) :
    Calls Yba.prog 5 #[.slice a 0 cap, .int .i32 tv, .int .i64 rst, .int .i64 hst] w fun e w' => e = .returned (.bool true) ∧ Below w.heap.size w w' := by
  have HP := hide (cpath_one a 0 cap zs w h0 (by omega))
  clear h0
  go_enter Yba.func5, Yba.ntmps5
  go_wp2_with fail
  refine HP.out.mono ?_
  rintro e w1 ⟨ra, P, rfl, hra, hPge, hP, hb1⟩
  have HQ := hide (passed_int ra 0 P [] rst tv hst (w1.alloc (.cells #[.slice ra 0 0, .int .i64 rst] 55)) (by omega) rfl (by intro v hv; cases hv) (.inl rfl))
  have HB1 := hide hb1
  have HRA := hide hra
  clear hb1 hra hP HP
  go_wp2_with fail
  refine HQ.out.mono ?_
  rintro e w2 ⟨g, rfl, hg, hbg, hb2⟩
  have hbw : Below w.heap.size w (w2.alloc (.cells #[.slice (some ⟨g, 0, none⟩) (0 + 1) (0 + 1), .int .i64 hst] 55)) :=
    ((HB1.out.alloc HB1.out.size _).trans (hb2.mono (by have := HB1.out.size; simp; omega))).alloc (by have := HB1.out.size; have := hb2.size; simp at this; omega) _
  have hr : Blk w2 w1.heap.size 55 [.slice ra 0 0, .int .i64 rst] := (Blk.new w1 55 [.slice ra 0 0, .int .i64 rst]).below hb2 (by simp)
  have hr' := hr.alloc (.cells #[.slice (some ⟨g, 0, none⟩) (0 + 1) (0 + 1), .int .i64 hst] 55)
  have cr0 : (w2.alloc (.cells #[.slice (some ⟨g, 0, none⟩) (0 + 1) (0 + 1), .int .i64 hst] 55)).cell? ⟨w1.heap.size, 0, none⟩ = some (.slice ra 0 0) := hr'.cell (i := 0) (by simp)
  have cr1 : (w2.alloc (.cells #[.slice (some ⟨g, 0, none⟩) (0 + 1) (0 + 1), .int .i64 hst] 55)).cell? ⟨w1.heap.size, 1, none⟩ = some (.int .i64 rst) := hr'.cell (i := 1) (by simp)
  have cg0 : (w2.alloc (.cells #[.slice (some ⟨g, 0, none⟩) (0 + 1) (0 + 1), .int .i64 hst] 55)).cell? ⟨g, 0, none⟩ = some (.int .i32 tv) := (hbg.alloc _).cell (i := 0) (by simp)
  have g0 : (w2.alloc (.cells #[.slice (some ⟨g, 0, none⟩) (0 + 1) (0 + 1), .int .i64 hst] 55)).cell? ⟨w2.heap.size, 0, none⟩ = some (.slice (some ⟨g, 0, none⟩) 1 1) := by simp
  have g1 : (w2.alloc (.cells #[.slice (some ⟨g, 0, none⟩) (0 + 1) (0 + 1), .int .i64 hst] 55)).cell? ⟨w2.heap.size, 1, none⟩ = some (.int .i64 hst) := by simp
  simp only [Nat.zero_add] at hbw cr0 cr1 cg0 g0 g1
  have HBW := hide hbw
  clear hbw hb2 hbg HQ HB1 hr hr'
  go_upto_region 5 with fail
  generalize (w2.alloc (.cells #[.slice (some ⟨g, 0, none⟩) 1 1, .int .i64 hst] 55)) = W at *
  go_wp2_with fail
  refine wp_loop_rounds 1 ?_
  rw [rounds_succ]
  have e1 := run_nil52
  have e2 := run_nil50
  go_wp2
  go_ret
  exact ⟨by rw [HRA.out]; simp, HBW.out⟩

theorem prepends_walk (a : Option Addr) (len cap : Nat) (zs : List Int) (tv rst hst : Int) (w : World) (h0 : IsRow .i32 w a len cap zs) :
    Calls Yba.prog 5 #[.slice a len cap, .int .i32 tv, .int .i64 rst, .int .i64 hst] w fun e w' => e = .returned (.bool true) ∧ Below w.heap.size w w' := by
  obtain ⟨hz, hnil, hc⟩ := h0.at
  rcases Nat.lt_or_ge 1024 len with hgt0 | hn
  · have hgt : (1024 : Int) < (len : Int) := by omega
    clear h0 hc hnil
    go_enter Yba.func5, Yba.ntmps5
    go_wp2
    go_ret
    exact ⟨rfl, Below.refl _ _⟩
  · by_cases hpos : 0 < len
    · obtain ⟨b, off, rfl, hb, hcc⟩ := hc hpos
      exact prepends_pos b off len cap zs tv rst hst w h0 hz hpos hn hb hcc
    · obtain rfl : len = 0 := by omega
      exact prepends_zero a cap zs tv rst hst w h0
theorem own : ownKnob Yba.prog.godebug = none := by kernel_rfl
theorem laidOut : laidOutB Yba.prog = true := by kernel_rfl

section
open Go.ChangeShapes Go.ChangeAt
open Go.ChangeMaps (open_string shut_string)
set_option linter.unusedVariables false
set_option maxRecDepth 100000 in
theorem prepends_lifted (os : Os) (started : os.Started) (H : Type) (enc : TypeId × Value → H) :
    ReturnsInHanded {} Yba.checked os 5 .any (Rows.lawS0134CPrependsSpec.pre6 enc Yba.prog Yba.f5 Rows.lawS0134CPrependsRow.domain false) (Rows.lawS0134CPrependsSpec.post enc Yba.prog Yba.f5 false true false false) := by
  refine returnsInHanded_of_change (C := Yba.checked) own started (by kernel_rfl) Yba.func5
    (ChangeSpec.witness6 (enc := enc) (C := Yba.checked) false ⟨#[], #[.slice none 0 0, .int .i32 0, .int .i64 0, .int .i64 0], []⟩ 8 (by kernel_rfl) (by kernel_rfl) (by kernel_rfl) (by kernel_rfl)) ?_
  intro W base args ds gs before hval0 hW hcnd _
  have hval : ∀ (j : Nat) t v, Yba.f5.params[j]? = some t → args[j]? = some v → Value.okWide Yba.prog W .any base t v := hval0
  have hW' := hW
  obtain ⟨p, q, hA0, hV, rfl, hfz, hnd⟩ := hW
  have hA : DataW.TrodAll enc Yba.prog W 0 (fun _ => true) true Yba.f5.params.toList args.toList ds p := hA0
  rw [Yba.params5] at hA hval
  obtain ⟨v0, vs0, d0, ds0, p0, q0, hargs, rfl, rfl, h0, r0⟩ := trodAll_cons hA
  obtain ⟨v1, vs1, d1, ds1, p1, q1, rfl, rfl, rfl, h1, r1⟩ := trodAll_cons r0
  obtain ⟨v2, vs2, d2, ds2, p2, q2, rfl, rfl, rfl, h2, r2⟩ := trodAll_cons r1
  obtain ⟨v3, vs3, d3, ds3, p3, q3, rfl, rfl, rfl, h3, r3⟩ := trodAll_cons r2
  obtain ⟨rfl, rfl, rfl⟩ := trodAll_nil r3
  obtain rfl : args = #[v0, v1, v2, v3] := by cases args; simp_all
  obtain ⟨rfl, rfl⟩ := trodVars_none hV
  obtain ⟨a0, len0, cap0, rfl⟩ := okWide_slice Yba.underlying50 (hval 0 50 v0 rfl rfl)
  have k0 := h0
  have lt0 : ∀ x ∈ p0, x.block < W.heap.size := by obtain ⟨m, hm⟩ := k0; exact DataW.trod_lt m _ _ _ hm
  obtain ⟨z0, w0⟩ : ∃ zs, IsRow .i32 W a0 len0 cap0 zs := by
    obtain ⟨fuel, hf⟩ := h0
    rcases open_ints Yba.underlying50 Yba.underlying21 (by kernel_rfl) hf with ⟨hcs, _⟩ | ⟨x, l, c, zs, hcs, _, hl, hm, hz, _, hcell, hwz⟩
    · simp [Value.cells] at hcs
      obtain ⟨rfl, rfl, rfl⟩ := hcs
      exact ⟨[], .inl ⟨rfl, rfl, rfl, rfl⟩⟩
    · simp [Value.cells] at hcs
      obtain ⟨rfl, rfl, rfl⟩ := hcs
      exact ⟨zs, .inr ⟨_, rfl, hl, hm, by simpa using hz, hcell, hwz⟩⟩
  obtain ⟨a1, rfl, rfl, rfl, w1⟩ := open_int Yba.underlying21 (hval 1 21 v1 rfl rfl) h1
  obtain ⟨a2, rfl, rfl, rfl, w2⟩ := open_int Yba.underlying3 (hval 2 3 v2 rfl rfl) h2
  obtain ⟨a3, rfl, rfl, rfl, w3⟩ := open_int Yba.underlying3 (hval 3 3 v3 rfl rfl) h3
  clear hA0 hval0
  refine (prepends_walk a0 len0 cap0 z0 a1 a2 a3 W w0).mono fun e W' ⟨he, bel⟩ => ?_
  subst he
  exact ⟨_, rfl, _, _, _, [], _, [], hW', trodAll_mk1 (shut_bool Yba.underlying4 _), (trodAll_cons_mk (Below.trod laidOut (by kernel_rfl) (of_decide_eq_true (by kernel_rfl)) k0 bel lt0) (trodAll_cons_mk (shut_int Yba.underlying21 w1) (trodAll_cons_mk (shut_int Yba.underlying3 w2) (trodAll_cons_mk (shut_int Yba.underlying3 w3) trodAll_mk0)))), rfl, bel.frame _, fun h => by cases h⟩

theorem prepends_over : Rows.lawS0134CPrependsRow.holds Yba.pinned (OpenSpec.ofChange Rows.lawS0134CPrependsSpec) :=
  OpenClaim.holds_of_wide 5 Yba.f5 rfl rfl rfl rfl rfl rfl rfl ⟨rfl, rfl, rfl, rfl, rfl⟩ rfl rfl rfl rfl rfl (by kernel_rfl) Yba.func5 (by kernel_rfl)
    (of_decide_eq_true (by kernel_rfl)) (by unfold Func.isWrapper; first | (rw [if_pos (by decide +kernel)]; kernel_rfl) | (rw [if_neg (by decide +kernel)]; exact ⟨rfl, rfl⟩))
    (fun os started H enc _ => prepends_lifted os started H enc)

theorem prepends_proved : Rows.LawS0134CPrependsSaid := prepends_over
end
end Go.Proofs.Ybulkbte
