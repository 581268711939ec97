/- slices.Clone, Sort, Compact at []string in one vocabulary. -/
import Derived.Test.YbulkbsqGet
import Derived.Sort.OwnSorted
import Derived.Lib.RowBridge
namespace Go.Proofs.Ybulkbsq
open Go.RowKit Go.WideShapes Go.Sort

/-- The slice (a, n, cap) of strings, in memory from B on. -/
def OwnS (B : Nat) (w : World) (a : Option Addr) (n cap : Nat) (ls : List (List UInt8)) : Prop :=
  ls.length = n ∧ n ≤ cap ∧ (n = 0 ∨ ∃ g, a = some ⟨g, 0, none⟩ ∧ B ≤ g ∧ w.ownsRow B 9 1 (.slice (some ⟨g, 0, none⟩) n cap) n (ls.map encStr))

def bytesOf (s : ByteArray) : List UInt8 := s.data.toList
def strOf (l : List UInt8) : ByteArray := ⟨l.toArray⟩
theorem encStr_bytes (ss : List ByteArray) : (ss.map bytesOf).map encStr = ss.map Value.string := by
  simp [bytesOf]

theorem clone_any {ok : Nat → Prop} (a : Option Addr) (n c : Nat) (ss : List ByteArray) (w : World) (hr : StrRow ok w a n ss) (hn : n ≤ 1024) (hnil : a = none → n = 0 ∧ c = 0) :
    Calls Yba.prog 10 #[.slice a n c] w fun e w' => ∃ a' cap, e = .returned (.slice a' n cap) ∧ OwnS w.heap.size w' a' n cap (ss.map bytesOf) ∧ Below w.heap.size w w' := by
  have hl := hr.1
  cases a with
  | none =>
    obtain ⟨rfl, rfl⟩ := hnil rfl
    refine (Yba.slices_Clone_string_nil 0 0 w).mono ?_
    rintro e w' ⟨rfl, rfl⟩
    exact ⟨none, 0, rfl, ⟨by simpa using hl, Nat.le_refl _, .inl rfl⟩, Below.refl _ _⟩
  | some x =>
    by_cases h0 : n = 0
    · subst h0
      refine (Yba.slices_Clone_string_zero x c w).mono ?_
      rintro e w' ⟨v', rfl, hown, hne, hb⟩
      rcases hown.2 with ⟨h, _⟩ | ⟨g, cap, cur, rfl, _⟩
      · exact absurd h hne
      · exact ⟨_, cap, rfl, ⟨by simpa using hl, Nat.zero_le _, .inl rfl⟩, hb⟩
    · rcases hr.2 with h | ⟨b, off, hx, _, hc⟩
      · exact absurd h h0
      · cases hx
        refine (Yba.slices_Clone_string b off n c ss w (by omega) (by omega) (fun j hj => hc j (by omega))).mono ?_
        rintro e w' ⟨v', rfl, hown, hne, hb⟩
        rw [List.take_of_length_le (by omega)] at hown
        have hown2 := hown
        rcases hown.2 with ⟨h, _⟩ | ⟨g, cap, cur, rfl, hg, hcur, h1, _⟩
        · exact absurd h hne
        · exact ⟨_, cap, rfl, ⟨by simpa using hl, h1, .inr ⟨g, rfl, hg, by rw [encStr_bytes]; exact hown2⟩⟩, hb⟩

theorem below_put {B g q : Nat} {w0 w : World} {os : Array Obj} (hb : Below B w0 w) (hB : B ≤ w.heap.size) (hg : B ≤ g) (d : Array (List UInt8)) : Below B w0 (grow (putRow encStr (Sort.ahead w q) g 0 d) os) :=
  hb.grown (grownBy_sorted d) hB (fun k hk => by cases hk; exact hg)

theorem sort_any (B : Nat) (a : Option Addr) (n cap : Nat) (ls : List (List UInt8)) (w : World) (h : OwnS B w a n cap ls) (hn : n ≤ 1024) (hB : B ≤ w.heap.size) :
    Calls Yba.prog 11 #[.slice a n cap] w fun e w' => e = .returned (.tuple #[]) ∧ OwnS B w' a n cap (ls.mergeSort fun x y => decide (x ≤ y)) ∧ Below B w w' := by
  obtain ⟨hl, hc, h2⟩ := h
  by_cases h0 : n = 0
  · subst h0
    refine (Yba.slices_Sort_string_none a cap w).mono ?_
    rintro e w' ⟨rfl, rfl⟩
    exact ⟨rfl, ⟨by simpa using hl, hc, .inl rfl⟩, Below.refl _ _⟩
  · rcases h2 with h | ⟨g, rfl, hg, hown⟩
    · exact absurd h h0
    · subst hl
      rcases hown.2 with ⟨h, _⟩ | ⟨g', cap', cur, hv, _, hcur, h1, h2, h3, h4⟩
      · simp at h
      · simp at hv
        obtain ⟨rfl, rfl⟩ := hv
        refine (Yba.slices_Sort_string g 0 cap ls w (holds_of_block hcur (by simpa using h4)) (Array.getElem?_eq_some_iff.1 hcur).1 (by omega)).mono ?_
        rintro e w' ⟨rfl, q, os, rfl⟩
        exact ⟨rfl, ⟨by simp, hc, .inr ⟨g, rfl, hg, ownsRow_sorted (by simp) hg hcur h1 h2 h3⟩⟩, below_put (Below.refl _ _) hB hg _⟩

theorem compact_any (B : Nat) (a : Option Addr) (n cap : Nat) (ls : List (List UInt8)) (w : World) (h : OwnS B w a n cap ls) (hn : n ≤ 1024) (hB : B ≤ w.heap.size) :
    Calls Yba.prog 12 #[.slice a n cap] w fun e w' => e = .returned (.slice a (Lib.compact ls).length cap) ∧ StrRow (fun _ => True) w' a (Lib.compact ls).length ((Lib.compact ls).map strOf) ∧ Below B w w' := by
  obtain ⟨hl, hc, h2⟩ := h
  by_cases h0 : n = 0
  · subst h0
    have : ls = [] := List.eq_nil_of_length_eq_zero hl
    subst this
    refine (Yba.slices_Compact_string_empty a cap w).mono ?_
    rintro e w' ⟨rfl, rfl⟩
    exact ⟨rfl, ⟨rfl, .inl rfl⟩, Below.refl _ _⟩
  · rcases h2 with h | ⟨g, rfl, hg, hown⟩
    · exact absurd h h0
    · subst hl
      rcases hown.2 with ⟨h, _⟩ | ⟨g', cap', cur, hv, _, hcur, h1, h2, h3, h4⟩
      · simp at h
      · simp at hv
        obtain ⟨rfl, rfl⟩ := hv
        have hH : Holds encStr w g 0 ls.toArray := holds_of_block hcur (by simpa using h4)
        refine (Yba.slices_Compact_string g 0 cap ls w hH (by omega) hc).mono ?_
        rintro e w' ⟨rfl, q, rfl⟩
        refine ⟨rfl, ⟨by simp, .inr ⟨g, 0, rfl, trivial, fun i hi => ?_⟩⟩, ?_⟩
        · have hle := Lib.compact_length_le ls
          have hsz : (Lib.compact ls ++ List.replicate (ls.length - (Lib.compact ls).length) []).toArray.size = ls.toArray.size := by simp; omega
          have := cell?_putRow encStr (Sort.ahead w q) g 0 ls.toArray _ (holds_ahead _ _ _ _ _ _ hH) hsz i (by simp; omega)
          rw [this]
          have e1 : ((Lib.compact ls ++ List.replicate (ls.length - (Lib.compact ls).length) []).toArray)[i]! = (Lib.compact ls)[i] := by
            rw [getElem!_pos _ _ (by simp; omega)]
            simp [List.getElem_append_left hi]
          rw [e1]
          simp [hi, strOf]
        · have := below_put (q := q) (os := #[]) (Below.refl B w) hB hg (Lib.compact ls ++ List.replicate (ls.length - (Lib.compact ls).length) []).toArray
          simpa using this
end Go.Proofs.Ybulkbsq
