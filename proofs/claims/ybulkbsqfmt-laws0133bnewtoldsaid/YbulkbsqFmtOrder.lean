/- Plain mathematics: the byte order; searching a sorted row. No Go in sight. -/
import Derived.Lib.Bytealg
namespace Go.Proofs.YbulkbsqFmt
open Go.Lib

theorem cb_self : ∀ a : List UInt8, compareBytes a a = 0
  | [] => rfl
  | x :: a => by simp [compareBytes, UInt8.lt_irrefl, cb_self a]

theorem cb_eq : ∀ a b : List UInt8, compareBytes a b = 0 → a = b
  | [], [], _ => rfl
  | [], _ :: _, h => by simp [compareBytes] at h
  | _ :: _, [], h => by simp [compareBytes] at h
  | x :: a, y :: b, h => by
    unfold compareBytes at h
    split at h
    · simp at h
    · split at h
      · simp at h
      · rename_i h1 h2
        have : x = y := by
          apply UInt8.toNat_inj.1
          simp only [UInt8.lt_iff_toNat_lt] at h1 h2
          omega
        rw [this, cb_eq a b h]

/-- What stands before something smaller than q is smaller than q. -/
theorem cb_le_lt : ∀ a b q : List UInt8, compareBytes a b ≤ 0 → compareBytes b q < 0 → compareBytes a q < 0
  | [], [], _, _, h => h
  | [], _ :: _, [], _, h => by simp [compareBytes] at h
  | [], _ :: _, _ :: _, _, _ => by simp [compareBytes]
  | _ :: _, [], _, h, _ => by simp [compareBytes] at h
  | _ :: _, _ :: _, [], _, h => by simp [compareBytes] at h
  | x :: a, y :: b, z :: q, h1, h2 => by
    have ih := cb_le_lt a b q
    unfold compareBytes at h1 h2 ⊢
    simp only [UInt8.lt_iff_toNat_lt] at h1 h2 ⊢
    by_cases e1 : x.toNat < y.toNat
    · by_cases e2 : y.toNat < z.toNat
      · rw [if_pos (by omega)]; decide
      · rw [if_neg e2] at h2
        by_cases e3 : z.toNat < y.toNat
        · rw [if_pos e3] at h2; omega
        · rw [if_pos (by omega)]; decide
    · rw [if_neg e1] at h1
      by_cases e2 : y.toNat < x.toNat
      · rw [if_pos e2] at h1; omega
      · rw [if_neg e2] at h1
        by_cases e3 : y.toNat < z.toNat
        · rw [if_pos (by omega)]; decide
        · rw [if_neg e3] at h2
          by_cases e4 : z.toNat < y.toNat
          · rw [if_pos e4] at h2; omega
          · rw [if_neg e4] at h2
            rw [if_neg (by omega), if_neg (by omega)]
            exact ih h1 h2

/-- What stands behind something greater than q is greater than q. -/
theorem cb_gt : ∀ a b q : List UInt8, compareBytes a b ≤ 0 → 0 < compareBytes a q → 0 < compareBytes b q
  | [], _, [], _, h => by simp [compareBytes] at h
  | [], _, _ :: _, _, h => by simp [compareBytes] at h
  | _ :: _, [], _, h, _ => by simp [compareBytes] at h
  | _ :: _, _ :: _, [], _, _ => by simp [compareBytes]
  | x :: a, y :: b, z :: q, h1, h2 => by
    have ih := cb_gt a b q
    unfold compareBytes at h1 h2 ⊢
    simp only [UInt8.lt_iff_toNat_lt] at h1 h2 ⊢
    by_cases e1 : x.toNat < z.toNat
    · rw [if_pos e1] at h2; omega
    · rw [if_neg e1] at h2
      by_cases e2 : z.toNat < x.toNat
      · by_cases e3 : x.toNat < y.toNat
        · rw [if_neg (by omega), if_pos (by omega)]; decide
        · rw [if_neg e3] at h1
          by_cases e4 : y.toNat < x.toNat
          · rw [if_pos e4] at h1; omega
          · rw [if_neg (by omega), if_pos (by omega)]; decide
      · rw [if_neg e2] at h2
        by_cases e3 : x.toNat < y.toNat
        · rw [if_neg (by omega), if_pos (by omega)]; decide
        · rw [if_neg e3] at h1
          by_cases e4 : y.toNat < x.toNat
          · rw [if_pos e4] at h1; omega
          · rw [if_neg e4] at h1
            rw [if_neg (by omega), if_neg (by omega)]
            exact ih h1 h2

theorem cb_of_le : ∀ a b : List UInt8, a ≤ b → compareBytes a b ≤ 0
  | [], [], _ => by simp [compareBytes]
  | [], _ :: _, _ => by simp [compareBytes]
  | x :: a, [], h => by
    exact absurd h (by simp)
  | x :: a, y :: b, h => by
    unfold compareBytes
    rw [List.cons_le_cons_iff] at h
    split
    · decide
    · rename_i h1
      rcases h with h | ⟨rfl, h⟩
      · exact absurd h h1
      · rw [if_neg h1]
        exact cb_of_le a b h

end Go.Proofs.YbulkbsqFmt
