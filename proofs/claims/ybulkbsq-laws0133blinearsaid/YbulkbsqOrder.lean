/- Plain mathematics: the byte order; searching a sorted row. No Go in sight. -/
import Derived.Lib.Bytealg
import Derived.Lib.SlicesCompact
namespace Go.Proofs.Ybulkbsq
open Go.Lib

theorem cb_self : ∀ a : List UInt8, compareBytes a a = 0
  | [] => rfl
  | x :: a => by simp [compareBytes, UInt8.lt_irrefl, cb_self a]

theorem cb_eq : ∀ a b : List UInt8, compareBytes a b = 0 → a = b
  | [], [], _ => rfl
  | [], _ :: _, h => by simp [compareBytes] at h
  | _ :: _, [], h => by simp [compareBytes] at h
  | x :: a, y :: b, h => by
    unfold compareBytes at h
    split at h
    · simp at h
    · split at h
      · simp at h
      · rename_i h1 h2
        have : x = y := by
          apply UInt8.toNat_inj.1
          simp only [UInt8.lt_iff_toNat_lt] at h1 h2
          omega
        rw [this, cb_eq a b h]

/-- What stands before something smaller than q is smaller than q. -/
theorem cb_le_lt : ∀ a b q : List UInt8, compareBytes a b ≤ 0 → compareBytes b q < 0 → compareBytes a q < 0
  | [], [], _, _, h => h
  | [], _ :: _, [], _, h => by simp [compareBytes] at h
  | [], _ :: _, _ :: _, _, _ => by simp [compareBytes]
  | _ :: _, [], _, h, _ => by simp [compareBytes] at h
  | _ :: _, _ :: _, [], _, h => by simp [compareBytes] at h
  | x :: a, y :: b, z :: q, h1, h2 => by
    have ih := cb_le_lt a b q
    unfold compareBytes at h1 h2 ⊢
    simp only [UInt8.lt_iff_toNat_lt] at h1 h2 ⊢
    by_cases e1 : x.toNat < y.toNat
    · by_cases e2 : y.toNat < z.toNat
      · rw [if_pos (by omega)]; decide
      · rw [if_neg e2] at h2
        by_cases e3 : z.toNat < y.toNat
        · rw [if_pos e3] at h2; omega
        · rw [if_pos (by omega)]; decide
    · rw [if_neg e1] at h1
      by_cases e2 : y.toNat < x.toNat
      · rw [if_pos e2] at h1; omega
      · rw [if_neg e2] at h1
        by_cases e3 : y.toNat < z.toNat
        · rw [if_pos (by omega)]; decide
        · rw [if_neg e3] at h2
          by_cases e4 : z.toNat < y.toNat
          · rw [if_pos e4] at h2; omega
          · rw [if_neg e4] at h2
            rw [if_neg (by omega), if_neg (by omega)]
            exact ih h1 h2

/-- What stands behind something greater than q is greater than q. -/
theorem cb_gt : ∀ a b q : List UInt8, compareBytes a b ≤ 0 → 0 < compareBytes a q → 0 < compareBytes b q
  | [], _, [], _, h => by simp [compareBytes] at h
  | [], _, _ :: _, _, h => by simp [compareBytes] at h
  | _ :: _, [], _, h, _ => by simp [compareBytes] at h
  | _ :: _, _ :: _, [], _, _ => by simp [compareBytes]
  | x :: a, y :: b, z :: q, h1, h2 => by
    have ih := cb_gt a b q
    unfold compareBytes at h1 h2 ⊢
    simp only [UInt8.lt_iff_toNat_lt] at h1 h2 ⊢
    by_cases e1 : x.toNat < z.toNat
    · rw [if_pos e1] at h2; omega
    · rw [if_neg e1] at h2
      by_cases e2 : z.toNat < x.toNat
      · by_cases e3 : x.toNat < y.toNat
        · rw [if_neg (by omega), if_pos (by omega)]; decide
        · rw [if_neg e3] at h1
          by_cases e4 : y.toNat < x.toNat
          · rw [if_pos e4] at h1; omega
          · rw [if_neg (by omega), if_pos (by omega)]; decide
      · rw [if_neg e2] at h2
        by_cases e3 : x.toNat < y.toNat
        · rw [if_neg (by omega), if_pos (by omega)]; decide
        · rw [if_neg e3] at h1
          by_cases e4 : y.toNat < x.toNat
          · rw [if_pos e4] at h1; omega
          · rw [if_neg e4] at h1
            rw [if_neg (by omega), if_neg (by omega)]
            exact ih h1 h2

theorem cb_of_le : ∀ a b : List UInt8, a ≤ b → compareBytes a b ≤ 0
  | [], [], _ => by simp [compareBytes]
  | [], _ :: _, _ => by simp [compareBytes]
  | x :: a, [], h => by
    exact absurd h (by simp)
  | x :: a, y :: b, h => by
    unfold compareBytes
    rw [List.cons_le_cons_iff] at h
    split
    · decide
    · rename_i h1
      rcases h with h | ⟨rfl, h⟩
      · exact absurd h h1
      · rw [if_neg h1]
        exact cb_of_le a b h

/-- The bytes of a sorted list, its runs made one, stand in order. -/
theorem compact_mem {α : Type} [Inhabited α] [DecidableEq α] (zs : List α) : ∀ x ∈ compact zs, x ∈ zs := by
  intro x hx
  unfold compact compactUpTo at hx
  simp only [List.mem_map, List.mem_filter, List.mem_range] at hx
  obtain ⟨j, ⟨hj, _⟩, rfl⟩ := hx
  simp [getElem!_pos, hj]

theorem range_map_toList {α : Type} [Inhabited α] (zs : List α) : (List.range zs.length).map (zs.toArray[·]!) = zs := by
  apply List.ext_getElem
  · simp
  · intro i h1 h2
    simp at h1
    simp [h1]

theorem compact_sub {α : Type} [Inhabited α] [DecidableEq α] (zs : List α) : (compact zs).Sublist zs := by
  unfold compact compactUpTo
  have h := (List.filter_sublist (l := List.range zs.length) (p := keeps zs.toArray)).map (zs.toArray[·]!)
  rw [range_map_toList] at h
  exact h

theorem sorted_pair (ss : List (List UInt8)) : (ss.mergeSort fun x y => decide (x ≤ y)).Pairwise (fun a b => compareBytes a b ≤ 0) := by
  have h := List.pairwise_mergeSort (le := fun x y : List UInt8 => decide (x ≤ y)) (by
    intro a b c h1 h2
    simp only [decide_eq_true_eq] at h1 h2 ⊢
    exact List.le_trans h1 h2) (by
    intro a b
    simp only [Bool.or_eq_true, decide_eq_true_eq]
    exact List.le_total a b) ss
  rw [List.pairwise_iff_getElem] at h ⊢
  intro i j hi hj hij
  exact cb_of_le _ _ (by simpa using h i j hi hj hij)

theorem norm_pair (ss : List (List UInt8)) : (compact (ss.mergeSort fun x y => decide (x ≤ y))).Pairwise (fun a b => compareBytes a b ≤ 0) :=
  (sorted_pair ss).sublist (compact_sub _)

theorem norm_mem (ss : List (List UInt8)) : ∀ x ∈ compact (ss.mergeSort fun x y => decide (x ≤ y)), x ∈ ss := by
  intro x hx
  have := compact_mem _ x hx
  simpa using this
end Go.Proofs.Ybulkbsq
