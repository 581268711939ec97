/- The plain law behind LawS0133BNew. -/
import Derived.Test.YbulkbsqFmtNew
namespace Go.Proofs.YbulkbsqFmt
open Go.RowKit Go.WideShapes Go.Stop

/-- The value of the last label of that name. -/
def lastV (ls : List Lb) (q : ByteArray) : ByteArray := ls.foldl (fun acc l => if l.1 = q then l.2 else acc) ByteArray.empty

theorem lastV_snoc (ls : List Lb) (l : Lb) (q : ByteArray) : lastV (ls ++ [l]) q = if l.1 = q then l.2 else lastV ls q := by
  simp [lastV]

theorem foldl_hit (q v : ByteArray) : ∀ (ls : List Lb) (acc : ByteArray), (∀ l ∈ ls, l.1 = q → l.2 = v) → (acc = v ∨ ∃ l ∈ ls, l.1 = q) → ls.foldl (fun acc l => if l.1 = q then l.2 else acc) acc = v
  | [], acc, _, h => by
    rcases h with h | ⟨l, hl, _⟩
    · exact h
    · simp at hl
  | l :: r, acc, ha, h => by
    rw [List.foldl_cons]
    refine foldl_hit q v r _ (fun x hx => ha x (by simp [hx])) ?_
    by_cases hq : l.1 = q
    · left; rw [if_pos hq]; exact ha l (by simp) hq
    · rw [if_neg hq]
      rcases h with h | ⟨x, hx, hxq⟩
      · exact .inl h
      · rcases List.mem_cons.1 hx with rfl | hx
        · exact absurd hxq hq
        · exact .inr ⟨x, hx, hxq⟩

theorem lastV_hit (ls : List Lb) (q v : ByteArray) (ha : ∀ l ∈ ls, l.1 = q → l.2 = v) (h : ∃ l ∈ ls, l.1 = q) : lastV ls q = v :=
  foldl_hit q v ls _ ha (.inr h)
theorem lastV_miss (ls : List Lb) (q : ByteArray) (ha : ∀ l ∈ ls, l.1 ≠ q) : lastV ls q = ByteArray.empty :=
  foldl_hit q _ ls _ (fun l hl h => absurd h (ha l hl)) (.inl rfl)

theorem lookup_mem (ls : List Lb) (q v : ByteArray) (ha : ∀ l ∈ ls, l.1 = q → l.2 = v) (h : ∃ l ∈ ls, l.1 = q) : lookup ls q = v := by
  unfold lookup
  cases hf : ls.find? (fun l => decide (l.1 = q)) with
  | none =>
    obtain ⟨l, hl, hq⟩ := h
    have := List.find?_eq_none.1 hf l hl
    simp [hq] at this
  | some l =>
    have h1 := List.find?_some hf
    have h2 := List.mem_of_find?_eq_some hf
    simp at h1
    simpa using ha l h2 h1
theorem lookup_none (ls : List Lb) (q : ByteArray) (ha : ∀ l ∈ ls, l.1 ≠ q) : lookup ls q = ByteArray.empty := by
  unfold lookup
  rw [List.find?_eq_none.2 (fun l hl => by simpa using ha l hl)]
  rfl

theorem blank_empty (l : Lb) (h : blank l = true) : l.2 = ByteArray.empty := by
  unfold blank at h
  apply bytes_inj
  rw [ByteArray.toList_eq] at h
  simpa using h

/-- In order and apart: no two labels of one name. -/
theorem names_apart {ls : List Lb} (ho : InOrder ls) (ha : Apart ls ls.length) : ls.Pairwise fun a b => a.1 ≠ b.1 := by
  rw [List.pairwise_iff_getElem]
  intro i j hi hj hij he
  have h1 := ho.le (show i ≤ j - 1 by omega) (by omega)
  have h2 := ho.le (show j - 1 ≤ j by omega) hj
  have h3 := ha (j - 1) (by omega)
  rw [show j - 1 + 1 = j by omega] at h3
  have h4 : Lib.compareBytes (ls.getD (j - 1) noL).1.data.toList (ls.getD j noL).1.data.toList ≠ 0 := fun h => h3 (bytes_inj (cb_eq _ _ h))
  have h5 := cb_le_lt _ _ (ls.getD j noL).1.data.toList h1 (by omega)
  have e1 : ls.getD i noL = ls[i] := by simp [hi]
  have e2 : ls.getD j noL = ls[j] := by simp [hj]
  rw [e1, e2, he, cb_self] at h5
  omega

theorem one_name {ls : List Lb} (h : ls.Pairwise fun a b => a.1 ≠ b.1) {x y : Lb} (hx : x ∈ ls) (hy : y ∈ ls) (he : x.1 = y.1) : x = y := by
  rw [List.pairwise_iff_getElem] at h
  obtain ⟨i, hi, rfl⟩ := List.getElem_of_mem hx
  obtain ⟨j, hj, rfl⟩ := List.getElem_of_mem hy
  rcases Nat.lt_trichotomy i j with hl | rfl | hl
  · exact absurd he (h i j hi hj hl)
  · rfl
  · exact absurd he.symm (h j i hj hi hl)

theorem plain_law {ls ls' : List Lb} (hp : ls'.Perm ls) (ho : InOrder ls') (ha : Apart ls' ls'.length) (q : ByteArray) : lookup (left ls') q = lastV ls q := by
  have hu := names_apart ho ha
  by_cases h : ∃ l ∈ ls, l.1 = q
  · obtain ⟨l, hl, hq⟩ := h
    have hl' := hp.mem_iff.2 hl
    have hall : ∀ x ∈ ls', x.1 = q → x = l := fun x hx hxq => one_name hu hx hl' (hxq.trans hq.symm)
    have h2 : lastV ls q = l.2 := lastV_hit ls q l.2 (fun x hx hxq => by rw [hall x (hp.mem_iff.2 hx) hxq]) ⟨l, hl, hq⟩
    rw [h2]
    by_cases hb : blank l = true
    · rw [blank_empty l hb]
      refine lookup_none _ _ (fun x hx hxq => ?_)
      simp only [left, List.mem_filter] at hx
      rw [hall x hx.1 hxq, hb] at hx
      exact absurd hx.2 (by simp)
    · refine lookup_mem _ _ _ (fun x hx hxq => ?_) ⟨l, ?_, hq⟩
      · simp only [left, List.mem_filter] at hx
        rw [hall x hx.1 hxq]
      · simp only [left, List.mem_filter]
        exact ⟨hl', by simpa using hb⟩
  · have hn : ∀ l ∈ ls, l.1 ≠ q := fun l hl hq => h ⟨l, hl, hq⟩
    rw [lastV_miss ls q hn]
    refine lookup_none _ _ (fun x hx => ?_)
    simp only [left, List.mem_filter] at hx
    exact hn x (hp.mem_iff.1 hx.1)

theorem left_order {ls : List Lb} (h : InOrder ls) : InOrder (left ls) := List.Pairwise.filter _ h
theorem left_length (ls : List Lb) : (left ls).length ≤ ls.length := List.length_filter_le _ _
end Go.Proofs.YbulkbsqFmt
