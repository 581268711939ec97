/- Arguments of the rpsl laws, opened: slices of numbers, a slice of pairs of such slices. -/
import Derived.Test.YbulkbteModel
import Derived.ProofKit
import Derived.OpenShut
import Derived.ShutString
import Derived.ChangeOld
import Derived.Deep.SlicePairs
namespace Go.Proofs.Ybulkbte
open Go.RowKit Go.WideShapes Go.Deep Go.ChangeShapes

theorem cells47 : Yba.prog.cellsOf 47 = 2 := by kernel_rfl
theorem cells23 : Yba.prog.cellsOf 23 = 1 := by kernel_rfl
theorem cells24 : Yba.prog.cellsOf 24 = 1 := by kernel_rfl

/-- A slice of integers that came in. -/
theorem row_of {H : Type} {enc : TypeId × Value → H} {W : World} {t e : TypeId} {k : IntKind} {fuel : Nat} {v : Value} {x : DataW H × List MemPlace} (ht : Yba.prog.underlying t = some (.slice e)) (he : Yba.prog.underlying e = some (.int k)) (hc : Yba.prog.cellsOf e = 1)
    (h : DataW.trod enc Yba.prog W 0 (fun _ => true) true fuel t [v] = some x) : ∃ zs : List Int, Row W.heap.size W v (zs.map (Value.int k)) ∧ ∀ z ∈ zs, (Lit.int k z).wf = true := by
  rcases open_ints ht he hc h with ⟨hcs, _⟩ | ⟨a, len, cap, zs, hcs, _, hl, hm, hz, _, hcell, hwz⟩
  · simp only [List.cons.injEq, and_true] at hcs
    subst hcs
    exact ⟨[], Row.nil _ _, fun z hz => by cases hz⟩
  · simp only [List.cons.injEq, and_true] at hcs
    subst hcs
    simp only [if_true] at hz
    refine ⟨zs.take len, ?_, fun z hzz => hwz z (List.mem_of_mem_take hzz)⟩
    have hlen : ((zs.take len).map (Value.int k)).length = len := by simp; omega
    refine ⟨some a, cap, by rw [hlen], (fun h => by cases h), fun y hy j u hu => ?_⟩
    cases hy
    have hj : j < len := by
      by_cases hj : j < len
      · exact hj
      · rw [List.getElem?_eq_none (by omega)] at hu; cases hu
    have hcj := hcell j (by omega)
    have hu2 : u = .int k (zs.getD j 0) := by
      rw [List.getElem?_map, List.getElem?_take_of_lt hj, List.getElem?_eq_getElem (by omega)] at hu
      simp only [Option.map_some, Option.some.injEq] at hu
      rw [← hu, List.getD_eq_getElem?_getD, List.getElem?_eq_getElem (by omega)]
      rfl
    refine ⟨?_, by rw [hcj, hu2]⟩
    have := cell_lt hcj
    rw [add_block] at this
    exact this

/-- The sets that came in. -/
theorem sets_of {H : Type} {enc : TypeId × Value → H} {W : World} {fuel : Nat} {v : Value} {x : DataW H × List MemPlace}
    (h : DataW.trod enc Yba.prog W 0 (fun _ => true) true fuel 22 [v] = some x) : ∃ (n : Nat) (A Sb : Nat → List Int), InSets W.heap.size W v n A Sb ∧ ∀ i, i < n → ∀ b ∈ Sb i, (Lit.int .u8 b).wf = true := by
  rcases open_slice_pairs Yba.underlying22 Yba.underlying47 cells47 rfl rfl cells23 cells24 h with ⟨hcs, _⟩ | ⟨a, len, cap, m, q, V0, V1, D0, D1, P0, P1, hcs, _, hl, hm, hmm, _, hc⟩
  · simp only [List.cons.injEq, and_true] at hcs
    subst hcs
    exact ⟨0, fun _ => [], fun _ => [], ⟨none, 0, rfl, fun h => absurd h (Nat.lt_irrefl _)⟩, fun i hi => absurd hi (Nat.not_lt_zero _)⟩
  · simp only [List.cons.injEq, and_true] at hcs
    subst hcs
    simp only [if_true] at hmm
    have eA : ∀ i, ∃ zs : List Int, i < len → Row W.heap.size W (V0 i) (zs.map (Value.int .u32)) := fun i => by
      by_cases hi : i < len
      · obtain ⟨zs, h1, _⟩ := row_of (t := 23) (e := 25) (k := .u32) Yba.underlying23 Yba.underlying25 (by kernel_rfl) (hc i (by omega)).2.2.1
        exact ⟨zs, fun _ => h1⟩
      · exact ⟨[], fun h => absurd h hi⟩
    have eS : ∀ i, ∃ zs : List Int, i < len → Row W.heap.size W (V1 i) (zs.map (Value.int .u8)) ∧ ∀ z ∈ zs, (Lit.int .u8 z).wf = true := fun i => by
      by_cases hi : i < len
      · obtain ⟨zs, h1, h2⟩ := row_of (t := 24) (e := 5) (k := .u8) Yba.underlying24 Yba.underlying5 (by kernel_rfl) (hc i (by omega)).2.2.2
        exact ⟨zs, fun _ => ⟨h1, h2⟩⟩
      · exact ⟨[], fun h => absurd h hi⟩
    refine ⟨len, fun i => (eA i).choose, fun i => (eS i).choose, ⟨some a, cap, rfl, fun hpos => ?_⟩, fun i hi => ((eS i).choose_spec hi).2⟩
    obtain ⟨b, off, spot⟩ := a
    have h0 := (hc 0 (by omega)).1
    have hspot : spot = none := by simpa [Addr.add] using World.cell?_spot h0
    subst hspot
    refine ⟨b, off, rfl, by have := cell_lt h0; rw [add_block] at this; exact this, fun i hi => ?_⟩
    have h1 := (hc i (by omega)).1
    have h2 := (hc i (by omega)).2.1
    rw [add_plain] at h1 h2
    exact ⟨V0 i, V1 i, h1, by rw [Nat.add_assoc]; exact h2, (eA i).choose_spec hi, ((eS i).choose_spec hi).1⟩
end Go.Proofs.Ybulkbte
