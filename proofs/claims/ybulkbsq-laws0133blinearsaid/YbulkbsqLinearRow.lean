/- LawS0133BLinear: the row. -/
import Derived.Test.YbulkbsqLinear
import Derived.ProofKit
import Derived.OpenShut
import Derived.ShutString
import Derived.ChangeOld
import Derived.SizedLaws
import Derived.Deep.Strs
namespace Go.Proofs.Ybulkbsq.Linear
open Go.RowKit Go.WideShapes Go.Deep

theorem cells9 : Yba.prog.cellsOf 9 = 1 := by kernel_rfl

theorem list_of (n : Nat) {α : Type} (f : Nat → α) (d : α) : ∃ l : List α, l.length = n ∧ (∀ i, i < n → l.getD i d = f i) ∧ ∀ x ∈ l, ∃ i, i < n ∧ x = f i :=
  ⟨(List.range n).map f, by simp, fun i hi => by simp [hi], fun x hx => by
    simp only [List.mem_map, List.mem_range] at hx
    obtain ⟨i, hi, rfl⟩ := hx
    exact ⟨i, hi, rfl⟩⟩

theorem strRow_of {H : Type} {enc : TypeId × Value → H} {W : World} {a : Option Addr} {n c : Nat} {d : DataW H} {p : List MemPlace} (h : DataW.Trod enc Yba.prog W 0 (fun _ => true) true 22 (.slice a n c) d p) :
    ∃ ss : List ByteArray, StrRow (· < W.heap.size) W a n ss ∧ (a = none → n = 0 ∧ c = 0) ∧ ∀ s ∈ ss, ∃ elems spare, d = .slice elems spare ∧ DataW.lit (.string s.data.toList) ∈ elems := by
  obtain ⟨fuel, hf⟩ := h
  rcases open_strs Yba.underlying22 Yba.underlying9 cells9 hf with ⟨hcs, _⟩ | ⟨x, len, cap, m, Sx, hcs, _, hl, hm, hmm, hx, hc⟩
  · simp [Value.cells] at hcs
    obtain ⟨rfl, rfl, rfl⟩ := hcs
    exact ⟨[], ⟨rfl, .inl rfl⟩, fun _ => ⟨rfl, rfl⟩, fun s hs => by cases hs⟩
  · simp [Value.cells] at hcs
    obtain ⟨rfl, rfl, rfl⟩ := hcs
    simp at hmm
    subst hmm
    obtain ⟨ss, hss, hs, hmem⟩ := list_of n Sx ByteArray.empty
    refine ⟨ss, ⟨hss, ?_⟩, (fun h => by cases h), fun s hsm => ?_⟩
    · by_cases h0 : n = 0
      · exact .inl h0
      · obtain ⟨b, off, spot⟩ := x
        have hspot : spot = none := by simpa [Addr.add] using World.cell?_spot (hc 0 (by omega)).1
        subst hspot
        refine .inr ⟨b, off, rfl, cell_lt (hc 0 (by omega)).1, fun i hi => ?_⟩
        rw [hs i hi, ← add_plain]
        exact (hc i (by omega)).1
    · obtain ⟨i, hi, rfl⟩ := hmem s hsm
      simp only [Prod.mk.injEq] at hx
      refine ⟨_, _, hx.1, ?_⟩
      simp only [List.mem_map, List.mem_range]
      exact ⟨i, hi, rfl⟩

theorem weightsAll_mem {H : Type} {P : Program} {e : TypeId} : ∀ {ds : List (DataW H)} {d : DataW H}, d ∈ ds → ∀ n ∈ d.weights P e, n ∈ DataW.weightsAll P e ds
  | d0 :: ds, d, hd, n, hn => by
    simp only [DataW.weightsAll, List.mem_append]
    rcases List.mem_cons.1 hd with rfl | h
    · exact Or.inl hn
    · exact Or.inr (weightsAll_mem h n hn)

/-- The form's own reach, of a string inside a slice of strings. -/
theorem sized_str {H : Type} {P : Program} {ts : List TypeId} {ds : List (DataW H)} (h : (DataW.weightsEach P ts ds).all (· ≤ reachBytes) = true) {j : Nat} {t e : TypeId} {elems spare : List (DataW H)} {bs : List UInt8}
    (ht : ts[j]? = some t) (hd : ds[j]? = some (.slice elems spare)) (hu : P.underlying t = some (.slice e)) (hx : DataW.lit (.string bs) ∈ elems) : bs.length ≤ reachBytes := by
  refine of_decide_eq_true (List.all_eq_true.1 h _ (DataW.weights_mem_each ht hd _ ?_))
  simp only [DataW.weights, hu, List.mem_cons, List.mem_append]
  exact Or.inr (Or.inl (weightsAll_mem hx _ (by simp [DataW.weights])))

theorem reach_is : reachBytes = 140737488351232 := by decide +kernel
theorem size_le (s : ByteArray) (h : s.data.toList.length ≤ reachBytes) : s.size ≤ 140737488351232 := by
  rw [reach_is, Array.length_toList] at h
  exact h

set_option maxHeartbeats 1000000 in
set_option maxRecDepth 100000 in
theorem long_names (na : Option Addr) (nn nc : Nat) (q : ByteArray) (pk : Int) (w : World) (h : 1024 < nn) :
    Calls Yba.prog 6 #[.slice na nn nc, .string q, .int .u8 pk] w fun e w' => e = .returned (.bool true) ∧ Below w.heap.size w w' := by
  have hg : (1024 : Int) < (nn : Int) := by omega
  go_enter Yba.func6, Yba.ntmps6
  go_wp2
  go_ret
  exact ⟨rfl, Below.refl _ _⟩

theorem own : ownKnob Yba.prog.godebug = none := by kernel_rfl
theorem laidOut : laidOutB Yba.prog = true := by kernel_rfl

open Go.ChangeShapes Go.ChangeAt in
open Go.ChangeMaps (open_string shut_string) in
set_option maxRecDepth 100000 in
theorem lifted (os : Os) (started : os.Started) (H : Type) (enc : TypeId × Value → H) :
    ReturnsInHanded {} Yba.checked os 6 .any (Rows.lawS0133BLinearSpec.pre6 enc Yba.prog Yba.f6 Rows.lawS0133BLinearRow.domain false) (Rows.lawS0133BLinearSpec.post enc Yba.prog Yba.f6 false true false false) := by
  refine returnsInHanded_of_change_sized (C := Yba.checked) own started (by kernel_rfl) Yba.func6
    (ChangeSpec.witness6 (enc := enc) (C := Yba.checked) false ⟨#[], #[.slice none 0 0, .string ByteArray.empty, .int .u8 0], []⟩ 8 (by kernel_rfl) (by kernel_rfl) (by kernel_rfl) (by kernel_rfl)) ?_
  intro W base args ds gs before hval0 hW _ hsz0 _
  have hsz : (DataW.weightsEach Yba.prog (Yba.f6.params.toList ++ Rows.lawS0133BLinearSpec.plain.varTypes Yba.prog) (ds ++ gs)).all (· ≤ reachBytes) = true := hsz0
  clear hsz0
  have hval : ∀ (j : Nat) t v, Yba.f6.params[j]? = some t → args[j]? = some v → Value.okWide Yba.prog W .any base t v := hval0
  have hW' := hW
  obtain ⟨p, q, hA0, hV, rfl, hfz, hnd⟩ := hW
  have hA : DataW.TrodAll enc Yba.prog W 0 (fun _ => true) true Yba.f6.params.toList args.toList ds p := hA0
  rw [Yba.params6] at hA hval hsz
  obtain ⟨v0, vs0, d0, ds0, p0, q0, hargs, rfl, rfl, h0, r0⟩ := trodAll_cons hA
  obtain ⟨v1, vs1, d1, ds1, p1, q1, rfl, rfl, rfl, h1, r1⟩ := trodAll_cons r0
  obtain ⟨v2, vs2, d2, ds2, p2, q2, rfl, rfl, rfl, h2, r2⟩ := trodAll_cons r1
  obtain ⟨rfl, rfl, rfl⟩ := trodAll_nil r2
  obtain rfl : args = #[v0, v1, v2] := by cases args; simp_all
  obtain ⟨rfl, rfl⟩ := trodVars_none hV
  obtain ⟨a0, len0, cap0, rfl⟩ := okWide_slice Yba.underlying22 (hval 0 22 v0 rfl rfl)
  obtain ⟨a1, rfl, rfl, rfl, w1⟩ := open_string Yba.underlying9 (hval 1 9 v1 rfl rfl) h1
  obtain ⟨a2, rfl, rfl, rfl, w2⟩ := open_int Yba.underlying5 (hval 2 5 v2 rfl rfl) h2
  have lt0 : ∀ x ∈ p0, x.block < W.heap.size := by obtain ⟨m, hm⟩ := h0; exact DataW.trod_lt m _ _ _ hm
  obtain ⟨ss, hss, hnil, hdat⟩ := strRow_of h0
  have hb2 := bounds_u8 w2
  have hsize : ∀ s ∈ ss, s.size ≤ 140737488351232 := by
    intro s hs
    obtain ⟨elems, spare, hd, hmem⟩ := hdat s hs
    have := sized_str hsz (j := 0) (t := 22) (e := 9) rfl (by rw [hd]; rfl) Yba.underlying22 hmem
    exact size_le s this
  clear hA0 hval0 hdat
  have hwalk : Calls Yba.prog 6 #[.slice a0 len0 cap0, .string a1, .int .u8 a2] W fun e w' => e = .returned (.bool true) ∧ Below W.heap.size W w' := by
    by_cases hn : 1024 < len0
    · exact long_names a0 len0 cap0 a1 a2 W hn
    · obtain ⟨pk, rfl⟩ := Int.eq_ofNat_of_zero_le (show 0 ≤ a2 by omega)
      exact linear_law a0 len0 cap0 ss a1 pk W (by omega) (by omega) hss hnil hsize
  refine hwalk.mono fun e W' ⟨he, bel⟩ => ?_
  subst he
  exact ⟨_, rfl, _, _, _, [], _, [], hW', trodAll_mk1 (shut_bool Yba.underlying4 _), (trodAll_cons_mk (Below.trod laidOut (by kernel_rfl) (of_decide_eq_true (by kernel_rfl)) h0 bel lt0) (trodAll_cons_mk (shut_string Yba.underlying9 w1) (trodAll_cons_mk (shut_int Yba.underlying5 w2) trodAll_mk0))), rfl, bel.frame _, fun h => by cases h⟩

theorem over : Rows.lawS0133BLinearRow.holds Yba.pinned (OpenSpec.ofChange Rows.lawS0133BLinearSpec) :=
  OpenClaim.holds_of_wide 6 Yba.f6 rfl rfl rfl rfl rfl rfl rfl ⟨rfl, rfl, rfl, rfl, rfl⟩ rfl rfl rfl rfl rfl (by kernel_rfl) Yba.func6 (by kernel_rfl)
    (of_decide_eq_true (by kernel_rfl)) (by unfold Func.isWrapper; first | (rw [if_pos (by decide +kernel)]; kernel_rfl) | (rw [if_neg (by decide +kernel)]; exact ⟨rfl, rfl⟩))
    (fun os started H enc _ => lifted os started H enc)

theorem linear_proved : Rows.LawS0133BLinearSaid := over
end Go.Proofs.Ybulkbsq.Linear
