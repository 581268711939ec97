/- Arguments of this seat's laws, opened: a slice of strings, a slice of labels. -/
import Derived.Test.YbulkbsqFilter
import Derived.ProofKit
import Derived.OpenShut
import Derived.ShutString
import Derived.ChangeOld
import Derived.Deep.Strs
import Derived.Deep.SlicePairs
namespace Go.Proofs.Ybulkbsq
open Go.RowKit Go.WideShapes Go.Deep

theorem Yba.cells9 : Yba.prog.cellsOf 9 = 1 := by kernel_rfl
theorem Yba.cells53 : Yba.prog.cellsOf 53 = 2 := by kernel_rfl

theorem list_of (n : Nat) {α : Type} (f : Nat → α) (d : α) : ∃ l : List α, l.length = n ∧ ∀ i, i < n → l.getD i d = f i :=
  ⟨(List.range n).map f, by simp, fun i hi => by simp [hi]⟩

theorem strRow_of {H : Type} {enc : TypeId × Value → H} {W : World} {a : Option Addr} {n c : Nat} {d : DataW H} {p : List MemPlace} (h : DataW.Trod enc Yba.prog W 0 (fun _ => true) true 22 (.slice a n c) d p) :
    ∃ ss : List ByteArray, StrRow (· < W.heap.size) W a n ss ∧ (a = none → n = 0 ∧ c = 0) ∧ n ≤ maxLen ∧ ∀ s ∈ ss, s.size ≤ maxLen := by
  obtain ⟨fuel, hf⟩ := h
  rcases open_strs Yba.underlying22 Yba.underlying9 Yba.cells9 hf with ⟨hcs, _⟩ | ⟨x, len, cap, m, Sx, hcs, _, hl, hm, hmm, _, hc⟩
  · simp [Value.cells] at hcs
    obtain ⟨rfl, rfl, rfl⟩ := hcs
    exact ⟨[], ⟨rfl, .inl rfl⟩, fun _ => ⟨rfl, rfl⟩, by decide, fun s hs => by cases hs⟩
  · simp [Value.cells] at hcs
    obtain ⟨rfl, rfl, rfl⟩ := hcs
    simp at hmm
    subst hmm
    obtain ⟨ss, hss, hs⟩ := list_of n Sx ByteArray.empty
    refine ⟨ss, ⟨hss, ?_⟩, (fun h => by cases h), by omega, fun s hsm => ?_⟩
    · by_cases h0 : n = 0
      · exact .inl h0
      · obtain ⟨b, off, spot⟩ := x
        have hspot : spot = none := by simpa [Addr.add] using World.cell?_spot (hc 0 (by omega)).1
        subst hspot
        refine .inr ⟨b, off, rfl, cell_lt (hc 0 (by omega)).1, fun i hi => ?_⟩
        rw [hs i hi, ← add_plain]
        exact (hc i (by omega)).1
    · obtain ⟨i, hi, rfl⟩ := List.getElem_of_mem hsm
      have h1 := hs i (by omega)
      simp [hi] at h1
      rw [h1]
      exact (hc i (by omega)).2

theorem labRow_of {H : Type} {enc : TypeId × Value → H} {W : World} {a : Option Addr} {n c : Nat} {d : DataW H} {p : List MemPlace} (h : DataW.Trod enc Yba.prog W 0 (fun _ => true) true 49 (.slice a n c) d p) :
    ∃ ls : List Lb, LabRow (· < W.heap.size) W a n ls := by
  obtain ⟨fuel, hf⟩ := h
  rcases open_slice_pairs Yba.underlying49 Yba.underlying53 Yba.cells53 rfl rfl Yba.cells9 Yba.cells9 hf with ⟨hcs, _⟩ | ⟨x, len, cap, m, q, V0, V1, D0, D1, P0, P1, hcs, _, hl, hm, hmm, _, hc⟩
  · simp [Value.cells] at hcs
    obtain ⟨rfl, rfl, rfl⟩ := hcs
    exact ⟨[], rfl, .inl rfl⟩
  · simp [Value.cells] at hcs
    obtain ⟨rfl, rfl, rfl⟩ := hcs
    simp at hmm
    subst hmm
    have each : ∀ i, i < n → ∃ l : Lb, V0 i = .string l.1 ∧ V1 i = .string l.2 := fun i hi => by
      obtain ⟨s, h1, _, _⟩ := DataW.trod_string Yba.underlying9 (hc i (by omega)).2.2.1
      obtain ⟨t, h2, _, _⟩ := DataW.trod_string Yba.underlying9 (hc i (by omega)).2.2.2
      exact ⟨(s, t), by simpa using h1, by simpa using h2⟩
    obtain ⟨L, hL⟩ := choose_lt each
    obtain ⟨ls, hls, hs⟩ := list_of n L noL
    refine ⟨ls, hls, ?_⟩
    by_cases h0 : n = 0
    · exact .inl h0
    · obtain ⟨b, off, spot⟩ := x
      have hspot : spot = none := by simpa [Addr.add] using World.cell?_spot (hc 0 (by omega)).1
      subst hspot
      refine .inr ⟨b, off, rfl, cell_lt (hc 0 (by omega)).1, fun i hi => ?_⟩
      have h1 := (hc i (by omega)).1
      have h2 := (hc i (by omega)).2.1
      rw [add_plain] at h1 h2
      rw [hs i hi, ← (hL i hi).1, ← (hL i hi).2]
      exact ⟨h1, by rw [Nat.add_assoc]; exact h2⟩
end Go.Proofs.Ybulkbsq
