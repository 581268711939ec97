/- slices.IndexFunc and slices.DeleteFunc at labels, with the predicate 'the value is empty'. -/
import Derived.Test.YbulkbsqFmtSort
import Derived.Lib.SliceRun
import Derived.Lib.LazyBuf
import Derived.Laws.IdiomCopy
namespace Go.Proofs.YbulkbsqFmt
open Go.RowKit Go.WideShapes

/-- The value is empty. -/
def blank (l : Lb) : Bool := l.2.toList.isEmpty

set_option maxHeartbeats 400000 in
theorem new1 (l : Lb) (w : World) : Calls Ybaf.prog 11 #[.agg #[.string l.1, .string l.2]] w fun e w' => e = .returned (.bool (blank l)) ∧ w' = w.alloc (.cells #[.string l.1, .string l.2] 26) := by
  go_enter Ybaf.func11, Ybaf.ntmps11
  go_wp2
  go_ret
  exact ⟨rfl, rfl⟩

/-- The first blank label: its place, or -1. -/
def Indexed (w : World) (ls : List Lb) (n : Nat) (e : Ending) (w' : World) : Prop :=
  ((∃ k, k < n ∧ e = .returned (.int .i64 (k : Nat)) ∧ (∀ j, j < k → blank (ls.getD j noL) = false) ∧ blank (ls.getD k noL) = true) ∨ (e = .returned (.int .i64 (-1)) ∧ ∀ j, j < n → blank (ls.getD j noL) = false)) ∧ Below w.heap.size w w'

set_option maxHeartbeats 1000000 in
set_option maxRecDepth 100000 in
theorem index_pos (g n c : Nat) (ls : List Lb) (w : World) (hl : ls.length = n) (hn : n ≤ 1024) (hg : g < w.heap.size) (h : LabW w g ls) :
    Calls Ybaf.prog 19 #[.slice (some ⟨g, 0, none⟩) n c, .func (.func 11) #[] #[]] w fun e w' => Indexed w ls n e w' := by
  have HC := hide h
  clear h
  go_enter Ybaf.func19, Ybaf.ntmps19
  go_wp2
  go_loopw [8] (fun i wr => ∃ k : Nat, k ≤ n ∧ i = .int .i64 k ∧ (∀ j, j < k → blank (ls.getD j noL) = false) ∧ Below w.heap.size w wr) (fun i _ => n - (intOf i).toNat)
  case atStart => exact ⟨0, Nat.zero_le _, rfl, fun j hj => absurd hj (by omega), Below.refl _ _⟩
  case round =>
    obtain ⟨k, hk, rfl, hno, hbr⟩ := hrel
    have HNO := hide hno
    have HB := hide hbr
    have hws := hbr.size
    by_cases hlt : k < n
    · obtain ⟨q0, q1, _, _⟩ := HC.out k (by omega)
      have r0 := hbr.cell (p := ⟨g, k * 2, none⟩) hg
      rw [q0] at r0
      have r1 := hbr.cell (p := ⟨g, k * 2 + 1, none⟩) hg
      rw [q1] at r1
      obtain ⟨x, hx⟩ : ∃ x, x = ls.getD k noL := ⟨_, rfl⟩
      rw [← hx] at r0 r1
      have HX := hide hx
      have hk1 : (k : Int) < (n : Int) := by omega
      clear q0 q1 hx hno hbr
      go_wp2_with fail
      refine (new1 x wr).mono ?_
      rintro e w' ⟨rfl, rfl⟩
      by_cases hbl : blank x = true
      · go_wp2
        go_ret
        exact ⟨.inl ⟨k, hlt, rfl, HNO.out, by rw [← HX.out]; exact hbl⟩, HB.out.alloc hws _⟩
      · have hbf : blank x = false := by simpa using hbl
        clear hbl
        go_wp2
        go_roundw
        case rel =>
          refine ⟨k + 1, by omega, by go_num, fun j hj => ?_, HB.out.alloc hws _⟩
          rcases Nat.lt_or_eq_of_le (Nat.le_of_lt_succ hj) with h | rfl
          · exact HNO.out j h
          · rw [← HX.out]; exact hbf
        case measure => simp [intOf]; omega
    · obtain rfl : k = n := by omega
      have hk1 : ¬ (k : Int) < (k : Int) := by omega
      clear hno hbr
      go_wp2
      go_ret
      exact ⟨.inr ⟨rfl, HNO.out⟩, HB.out⟩

set_option maxHeartbeats 400000 in
theorem index_zero (a : Option Addr) (c : Nat) (w : World) :
    Calls Ybaf.prog 19 #[.slice a 0 c, .func (.func 11) #[] #[]] w fun e w' => Indexed w [] 0 e w' := by
  go_enter Ybaf.func19, Ybaf.ntmps19
  go_wp2
  refine wp_loop_rounds 1 ?_
  rw [rounds_succ]
  go_wp2
  go_ret
  exact ⟨.inr ⟨rfl, fun j hj => absurd hj (by omega)⟩, Below.refl _ _⟩

/-- What is kept of the first j. -/
def kept (ls : List Lb) (j : Nat) : List Lb := (ls.take j).filter fun l => !blank l
/-- The row behind j rounds. -/
def rowAt (ls : List Lb) (j : Nat) : List Lb := kept ls j ++ ls.drop (kept ls j).length

theorem kept_le (ls : List Lb) (j : Nat) : (kept ls j).length ≤ j := by
  unfold kept
  exact Nat.le_trans (List.length_filter_le _ _) (by simp; omega)
theorem kept_le' (ls : List Lb) (j : Nat) : (kept ls j).length ≤ ls.length := by
  unfold kept
  exact Nat.le_trans (List.length_filter_le _ _) (by simp; omega)
theorem rowAt_length (ls : List Lb) (j : Nat) : (rowAt ls j).length = ls.length := by
  have := kept_le' ls j
  simp [rowAt]; omega
theorem kept_hit (ls : List Lb) (j : Nat) (hj : j < ls.length) (h : blank (ls.getD j noL) = false) : kept ls (j + 1) = kept ls j ++ [ls.getD j noL] := by
  unfold kept
  rw [List.take_succ_eq_append_getElem hj, List.filter_append]
  simp [hj] at h
  simp [h, hj]
theorem kept_miss (ls : List Lb) (j : Nat) (hj : j < ls.length) (h : blank (ls.getD j noL) = true) : kept ls (j + 1) = kept ls j := by
  unfold kept
  rw [List.take_succ_eq_append_getElem hj, List.filter_append]
  simp [hj] at h
  simp [h]
theorem kept_all (ls : List Lb) (j : Nat) (hj : j ≤ ls.length) (h : ∀ i, i < j → blank (ls.getD i noL) = false) : kept ls j = ls.take j := by
  unfold kept
  rw [List.filter_eq_self]
  intro x hx
  obtain ⟨i, hi, rfl⟩ := List.getElem_of_mem hx
  have hi' : i < j := by simp at hi; omega
  have := h i hi'
  simp [show i < ls.length by omega] at this
  simp [this]
theorem rowAt_get (ls : List Lb) (j k : Nat) (hk : j ≤ k) (_hl : k < ls.length) : (rowAt ls j).getD k noL = ls.getD k noL := by
  have := kept_le ls j
  unfold rowAt
  rw [List.getD_eq_getElem?_getD, List.getElem?_append_right (by omega), List.getElem?_drop]
  rw [show (kept ls j).length + (k - (kept ls j).length) = k by omega, ← List.getD_eq_getElem?_getD]
theorem rowAt_hit (ls : List Lb) (j : Nat) (hj : j < ls.length) (h : blank (ls.getD j noL) = false) : (rowAt ls j).set (kept ls j).length (ls.getD j noL) = rowAt ls (j + 1) := by
  have hk := kept_le ls j
  unfold rowAt
  rw [kept_hit ls j hj h, List.set_append_right _ _ (Nat.le_refl _), Nat.sub_self, List.drop_eq_getElem_cons (show (kept ls j).length < ls.length by omega), List.set_cons_zero]
  simp
theorem rowAt_miss (ls : List Lb) (j : Nat) (hj : j < ls.length) (h : blank (ls.getD j noL) = true) : rowAt ls (j + 1) = rowAt ls j := by
  unfold rowAt
  rw [kept_miss ls j hj h]
theorem rowAt_start (ls : List Lb) (j : Nat) (hj : j ≤ ls.length) (h : ∀ i, i < j → blank (ls.getD i noL) = false) : rowAt ls j = ls := by
  unfold rowAt
  rw [kept_all ls j hj h]
  simp [List.take_append_drop, hj]

/-- A label stored into the row. -/
theorem LabW.store {w : World} {g : Nat} {ls : List Lb} (h : LabW w g ls) (i : Nat) (hi : i < ls.length) (x : Lb) : LabW ((w.setCell ⟨g, i * 2, none⟩ (.string x.1)).setCell ⟨g, i * 2 + 1, none⟩ (.string x.2)) g (ls.set i x) := by
  intro k hk
  have hk' : k < ls.length := by simpa using hk
  obtain ⟨c0, c1, f0, f1⟩ := h k hk'
  obtain ⟨d0, d1, _, _⟩ := h i hi
  rw [World.frozen?_setCell, World.frozen?_setCell, World.frozen?_setCell, World.frozen?_setCell]
  by_cases hik : i = k
  · subst hik
    have e : (ls.set i x).getD i noL = x := by simp [hi]
    rw [e]
    refine ⟨?_, ?_, f0, f1⟩
    · rw [World.cell?_setCell_other _ _ _ _ (by simp)]
      exact World.cell?_setCell_same _ _ _ d0
    · refine World.cell?_setCell_same _ _ _ (u := .string (ls.getD i noL).2) ?_
      rw [World.cell?_setCell_other _ _ _ _ (by simp)]
      exact d1
  · have e : (ls.set i x).getD k noL = ls.getD k noL := by simp [hik]
    rw [e]
    refine ⟨?_, ?_, f0, f1⟩
    · rw [World.cell?_setCell_other _ _ _ _ (by first | (simp; done) | (simp; omega)), World.cell?_setCell_other _ _ _ _ (by first | (simp; done) | (simp; omega))]
      exact c0
    · rw [World.cell?_setCell_other _ _ _ _ (by first | (simp; done) | (simp; omega)), World.cell?_setCell_other _ _ _ _ (by first | (simp; done) | (simp; omega))]
      exact c1

theorem LabW.below {B : Nat} {w w' : World} {g : Nat} {ls : List Lb} (h : LabW w g ls) (hb : Below B w w') (hg : g < B) : LabW w' g ls := by
  intro i hi
  obtain ⟨c0, c1, f0, f1⟩ := h i hi
  exact ⟨by rw [hb.cell (p := ⟨g, i * 2, none⟩) hg]; exact c0, by rw [hb.cell (p := ⟨g, i * 2 + 1, none⟩) hg]; exact c1, by rw [hb.frozen (p := ⟨g, i * 2, none⟩) hg]; exact f0, by rw [hb.frozen (p := ⟨g, i * 2 + 1, none⟩) hg]; exact f1⟩

/-- 'clear' of n > 0 labels: n * 2 empty strings. -/
theorem run_clear_labs (w : World) (ty : TypeId) (b o n c : Nat) (hn : 0 < n)
    (hc : ∀ j, j < n * 2 → (w.cell? ⟨b, o + j, none⟩).isSome = true) (hf : ∀ j, j < n * 2 → w.frozen? ⟨b, o + j, none⟩ = false) :
    (Builtin.clear_ #[27] ty #[.slice (some ⟨b, o, none⟩) n c]).run Ybaf.prog w = .ok (.tuple #[]) (w.setCells b o (List.replicate (n * 2) (.string ByteArray.empty))) := by
  have ht : Ybaf.prog.underlying 27 = some (.slice 26) := by kernel_rfl
  have hv : ∀ w, (zeroValue 26).run Ybaf.prog w = .ok (.agg #[.string ByteArray.empty, .string ByteArray.empty]) w := fun w => by kernel_rfl
  have hzc : (Builtin.zeroCells (Value.agg #[.string ByteArray.empty, .string ByteArray.empty]).cells n).toList = List.replicate (n * 2) (.string ByteArray.empty) := by
    have e : (Value.agg #[.string ByteArray.empty, .string ByteArray.empty]).cells = #[.string ByteArray.empty, .string ByteArray.empty] := by kernel_rfl
    rw [e]
    simp [Builtin.zeroCells]
    apply List.ext_getElem
    · simp
    · intro i h1 h2
      rcases Nat.mod_two_eq_zero_or_one i with hm | hm <;> simp [hm]
  have hst := run_storeCells_cells (P := Ybaf.prog) b o (List.replicate (n * 2) (.string ByteArray.empty)) 0 w (by simpa using hc) (by simpa using hf) (by intro v hv'; rw [List.eq_of_mem_replicate hv']; rfl)
  simp only [Nat.add_zero] at hst
  obtain ⟨m, rfl⟩ : ∃ m, n = m + 1 := ⟨n - 1, by omega⟩
  simp [Builtin.clear_, run_underlying ht, hv, hzc, hst]

theorem below_two {g : Nat} {w wr : World} {o o' : Nat} {u v : Value} (h : Below g w wr) : Below g w ((wr.setCell ⟨g, o, none⟩ u).setCell ⟨g, o', none⟩ v) :=
  (h.setCell (Nat.le_refl _) _).setCell (Nat.le_refl _) _

/-- What is left. -/
def left (ls : List Lb) : List Lb := ls.filter fun l => !blank l
/-- What DeleteFunc gives. -/
def Deleted (w : World) (g c : Nat) (ls : List Lb) (e : Ending) (w' : World) : Prop :=
  e = .returned (.slice (some ⟨g, 0, none⟩) (left ls).length c) ∧ LabW w' g (left ls) ∧ Below g w w'

set_option maxHeartbeats 2000000 in
set_option maxRecDepth 100000 in
theorem delete_pos (g n c : Nat) (ls : List Lb) (w : World) (hl : ls.length = n) (hn : n ≤ 1024) (hpos : 0 < n) (hcap : n ≤ c) (hg : g < w.heap.size) (h : LabW w g ls) :
    Calls Ybaf.prog 10 #[.slice (some ⟨g, 0, none⟩) n c, .func (.func 11) #[] #[]] w fun e w' => Deleted w g c ls e w' := by
  have HC := hide h
  clear h
  go_enter Ybaf.func10, Ybaf.ntmps10
  go_wp2_with fail
  refine (index_pos g n c ls w hl hn hg HC.out).mono ?_
  rintro e w1 ⟨hix, hb1⟩
  have HC1 : Hid (LabW w1 g ls) := hide (HC.out.below hb1 hg)
  have hg1 : g < w1.heap.size := Nat.lt_of_lt_of_le hg hb1.size
  rcases hix with ⟨k, hk, rfl, hno, hyes⟩ | ⟨rfl, hno⟩
  · have HNO := hide hno
    have HY := hide hyes
    have HB1 := hide hb1
    clear hno hyes hb1 HC
    have hk1 : ¬ ((k : Int) = -1) := by omega
    go_wp2
    go_loopw [5, 6] (fun vi vj wr => ∃ j : Nat, j ≤ n ∧ vi = .int .i64 ((kept ls j).length : Nat) ∧ vj = .int .i64 (j : Nat) ∧ (kept ls j).length < j ∧ LabW wr g (rowAt ls j) ∧ Below g w wr) (fun _ vj _ => n - (intOf vj).toNat)
    case atStart =>
      have hkk : kept ls (k + 1) = kept ls k := kept_miss ls k (by omega) HY.out
      have hka : kept ls k = ls.take k := kept_all ls k (by omega) HNO.out
      have hlen : (kept ls (k + 1)).length = k := by rw [hkk, hka]; simp; omega
      refine ⟨k + 1, by omega, by rw [hlen], by go_num, by omega, ?_, HB1.out.mono (by omega)⟩
      rw [rowAt_miss ls k (by omega) HY.out, rowAt_start ls k (by omega) HNO.out]
      exact HC1.out
    case round =>
      obtain ⟨j, hj, rfl, rfl, hij, hrow, hbr⟩ := hrel
      have HR := hide hrow
      have HB := hide hbr
      have hgr : g < wr.heap.size := Nat.lt_of_lt_of_le hg hbr.size
      have hkl := kept_le' ls j
      by_cases hlt : j < n
      · obtain ⟨q0, q1, _, _⟩ := HR.out j (by rw [rowAt_length]; omega)
        rw [rowAt_get ls j j (Nat.le_refl _) (by omega)] at q0 q1
        obtain ⟨p0, p1, f0, f1⟩ := HR.out (kept ls j).length (by rw [rowAt_length]; omega)
        have HKH := hide (kept_hit ls j (by omega))
        have HKM := hide (kept_miss ls j (by omega))
        have HRH := hide (rowAt_hit ls j (by omega))
        have HRM := hide (rowAt_miss ls j (by omega))
        have hx : ∃ x, x = ls.getD j noL := ⟨_, rfl⟩
        obtain ⟨x, hx⟩ := hx
        rw [← hx] at q0 q1 HKH HKM HRH HRM
        obtain ⟨i, hi⟩ : ∃ i, i = (kept ls j).length := ⟨_, rfl⟩
        rw [← hi] at p0 p1 f0 f1 hij hkl HRH ⊢
        have hin : (i : Int) < (n : Int) := by omega
        have hj1 : (j : Int) < (n : Int) := by omega
        have HX := hide hx
        have HI := hide hi
        clear hx hi hrow hbr
        go_wp2_with fail
        refine (new1 x _).mono ?_
        rintro e w' ⟨rfl, rfl⟩
        by_cases hbl : blank x = true
        · go_wp2
          go_roundw
          case rel =>
            refine ⟨_, _, _, _, _, _, _, _, _, _, _, _, _, _, _, _, _, _, _, _, _, _, _, ?_, rfl⟩
            refine ⟨j + 1, by omega, ?_, by go_num, ?_, ?_, ?_⟩
            · rw [HKM.out hbl, HI.out]
            · rw [HKM.out hbl]; rw [← HI.out]; omega
            · rw [HRM.out hbl]
              exact HR.out.below (((Below.refl _ wr).alloc (Nat.le_refl _) _).alloc (by simp) _) hgr
            · exact (HB.out.alloc (by omega) _).alloc (by simp; omega) _
          case measure => simp [intOf]; omega
        · have hbf : blank x = false := by simpa using hbl
          clear hbl
          go_wp2
          go_roundw
          case rel =>
            refine ⟨_, _, _, _, _, _, _, _, _, _, _, _, _, _, _, _, _, _, _, _, _, _, _, ?_, rfl⟩
            refine ⟨j + 1, by omega, ?_, by go_num, ?_, ?_, ?_⟩
            · rw [HKH.out hbf]; simp [HI.out]
            · rw [HKH.out hbf]; rw [List.length_append, ← HI.out]; simp; omega
            · rw [← HRH.out hbf]
              have hS := HR.out.store i (by rw [rowAt_length]; omega) x
              exact (hS.below ((Below.refl _ _).alloc (Nat.le_refl _) _) (by simpa using hgr)).below ((Below.refl _ _).alloc (Nat.le_refl _) _) (by simp; omega)
            · exact ((below_two HB.out).alloc (by simp; omega) _).alloc (by simp; omega) _
          case measure => simp [intOf]; omega
      · obtain rfl : j = n := by omega
        have hk1 : ¬ (j : Int) < (j : Int) := by omega
        clear hrow hbr
        obtain ⟨i, hi⟩ : ∃ i, i = (kept ls j).length := ⟨_, rfl⟩
        rw [← hi] at hij hkl ⊢
        have HI := hide hi
        have hsp : ∀ t, t < (j - i) * 2 → (wr.cell? ⟨g, i * 2 + t, none⟩).isSome = true ∧ wr.frozen? ⟨g, i * 2 + t, none⟩ = false := by
          intro t ht
          obtain ⟨c0, c1, f0, f1⟩ := HR.out ((i * 2 + t) / 2) (by rw [rowAt_length]; omega)
          rcases Nat.mod_two_eq_zero_or_one (i * 2 + t) with hm | hm
          · rw [show (i * 2 + t) / 2 * 2 = i * 2 + t by omega] at c0 f0
            exact ⟨by rw [c0]; rfl, f0⟩
          · rw [show (i * 2 + t) / 2 * 2 + 1 = i * 2 + t by omega] at c1 f1
            exact ⟨by rw [c1]; rfl, f1⟩
        have hcl := run_clear_labs wr 0 g (i * 2) (j - i) (c - i) (by omega) (fun t ht => (hsp t ht).1) (fun t ht => (hsp t ht).2)
        clear hsp hi
        have h1 : (i : Int) ≤ (j : Int) := by omega
        have h2 : (i : Int) ≤ (c : Int) := by omega
        go_wp2
        go_ret
        have hleft : left ls = kept ls j := by unfold left kept; rw [← hl, List.take_length]
        refine ⟨by rw [hleft, ← HI.out]; rfl, ?_, ?_⟩
        · rw [hleft]
          intro t ht
          have hti : t < i := by rw [HI.out]; exact ht
          obtain ⟨c0, c1, f0, f1⟩ := HR.out t (by rw [rowAt_length]; omega)
          have e : (rowAt ls j).getD t noL = (kept ls j).getD t noL := by
            unfold rowAt
            rw [List.getD_eq_getElem?_getD, List.getElem?_append_left ht, ← List.getD_eq_getElem?_getD]
          rw [e] at c0 c1
          refine ⟨?_, ?_, ?_, ?_⟩
          · rw [World.cell?_setCells_out _ _ _ _ _ (fun _ _ => .inl (by simp; omega))]; exact c0
          · rw [World.cell?_setCells_out _ _ _ _ _ (fun _ _ => .inl (by simp; omega))]; exact c1
          · rw [World.frozen?_setCells]; exact f0
          · rw [World.frozen?_setCells]; exact f1
        · exact Go.below_setCells (Nat.le_refl _) _ _ _ HB.out
  · have hall : left ls = ls := by
      unfold left
      rw [List.filter_eq_self]
      intro x hx
      obtain ⟨i, hi, rfl⟩ := List.getElem_of_mem hx
      have := hno i (by omega)
      simp [hi] at this
      simp [this]
    have HN := hide hno
    have HB1 := hide hb1
    clear hno hb1 HC
    go_wp2
    go_ret
    refine ⟨by rw [hall, hl]; rfl, by rw [hall]; exact HC1.out, HB1.out.mono (by omega)⟩
end Go.Proofs.YbulkbsqFmt
