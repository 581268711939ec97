/- byName; slices.SortFunc at labels by its contract. -/
import Derived.Test.YbulkbsqFmtBase
namespace Go.Proofs.YbulkbsqFmt
open Go.RowKit Go.WideShapes Go.Sort

theorem cb_swap : ∀ a b : List UInt8, Lib.compareBytes b a = - Lib.compareBytes a b
  | [], [] => rfl
  | [], _ :: _ => rfl
  | _ :: _, [] => rfl
  | x :: a, y :: b => by
    have ih := cb_swap a b
    unfold Lib.compareBytes
    simp only [UInt8.lt_iff_toNat_lt]
    by_cases h1 : x.toNat < y.toNat
    · rw [if_neg (by omega), if_pos h1, if_pos h1]; rfl
    · by_cases h2 : y.toNat < x.toNat
      · rw [if_pos h2, if_neg h1, if_pos h2]
      · rw [if_neg h2, if_neg h1, if_neg h1, if_neg h2]; exact ih

/-- A label's two cells. -/
def encL (l : Lb) : List Value := [.string l.1, .string l.2]
/-- byName, on labels. -/
def cfL (x y : Lb) : Int := cmpQ x.1 y.1

theorem swoL : SWO (ltOf cfL) where
  irrefl x := by
    unfold ltOf cfL cmpQ
    rw [cb_self]; rfl
  trans x y z h1 h2 := by
    unfold ltOf cfL cmpQ at *
    simp only [decide_eq_true_eq] at *
    exact cb_le_lt _ _ _ (by omega) h2
  ntrans x y z h1 h2 := by
    unfold ltOf cfL cmpQ at *
    simp only [decide_eq_false_iff_not] at *
    intro h
    apply h2
    refine cb_le_lt _ _ _ ?_ h
    rw [cb_swap]; omega

set_option maxHeartbeats 400000 in
theorem byName_any (x y : Lb) (W : World) : Calls Ybaf.prog 8 #[.agg #[.string x.1, .string x.2], .agg #[.string y.1, .string y.2]] W fun e w' => e = .returned (.int .i64 (cfL x y)) ∧ ∃ q os', w' = grow (W.drewN q) os' := by
  go_enter Ybaf.func8, Ybaf.ntmps8
  go_wp2_with (go_at_call 14; refine (Ybaf.strings_Compare _ _ _).mono ?_; rintro e w' ⟨rfl, rfl⟩)
  go_ret
  exact ⟨rfl, 0, _, by rw [alloc_eq_grow, alloc_eq_grow, grow_grow]; rfl⟩

theorem cmpLays8 (blk off size : Nat) (w : World) : CmpLays Ybaf.prog 8 #[] encL 2 cfL blk off size w :=
  fun _ _ _ _ x y => byName_any x y _

/-- Block g holds the labels ls, from its head on, none of the cells frozen. -/
def LabW (w : World) (g : Nat) (ls : List Lb) : Prop :=
  ∀ i, i < ls.length → w.cell? ⟨g, i * 2, none⟩ = some (.string (ls.getD i noL).1) ∧ w.cell? ⟨g, i * 2 + 1, none⟩ = some (.string (ls.getD i noL).2) ∧ w.frozen? ⟨g, i * 2, none⟩ = false ∧ w.frozen? ⟨g, i * 2 + 1, none⟩ = false

theorem arr_get (ls : List Lb) (i : Nat) (h : i < ls.length) : ls.toArray[i]! = ls.getD i noL := by
  rw [getElem!_pos _ _ (by simpa using h)]
  simp [h]

theorem LabW.holds {w : World} {g : Nat} {ls : List Lb} (h : LabW w g ls) : HoldsK encL 2 w g 0 ls.toArray := by
  intro j hj
  simp only [size_flatK, List.size_toArray] at hj
  obtain ⟨c0, c1, f0, f1⟩ := h (j / 2) (by omega)
  rw [get_flatK _ _ _ _ (by simpa using hj), arr_get _ _ (by omega)]
  rcases Nat.mod_two_eq_zero_or_one j with hm | hm
  · have e : 0 + j = j / 2 * 2 := by omega
    rw [e, hm]
    exact ⟨by simpa [encL] using c0, f0⟩
  · have e : 0 + j = j / 2 * 2 + 1 := by omega
    rw [e, hm]
    exact ⟨by simpa [encL] using c1, f1⟩

theorem LabW.of {w : World} {g : Nat} {d : Array Lb} (h : HoldsK encL 2 w g 0 d) : LabW w g d.toList := by
  intro i hi
  have hi' : i < d.size := by simpa using hi
  have e : d.toList.getD i noL = d[i]! := by
    rw [getElem!_pos d i hi']
    simp [hi']
  have h0 := h (i * 2) (by simp; omega)
  have h1 := h (i * 2 + 1) (by simp; omega)
  rw [get_flatK _ _ _ _ (by omega)] at h0 h1
  rw [show i * 2 / 2 = i by omega, show i * 2 % 2 = 0 by omega] at h0
  rw [show (i * 2 + 1) / 2 = i by omega, show (i * 2 + 1) % 2 = 1 by omega] at h1
  rw [Nat.zero_add] at h0
  rw [show 0 + (i * 2 + 1) = i * 2 + 1 by omega] at h1
  rw [e]
  exact ⟨by simpa [encL] using h0.1, by simpa [encL] using h1.1, h0.2, h1.2⟩

theorem below_sortK {B g q : Nat} {w : World} {os : Array Obj} {d : Array Lb} (hB : B ≤ w.heap.size) (hg : B ≤ g) : RowKit.Below B w (sortWorldK encL 2 w g 0 q d os) := by
  refine ⟨rfl, rfl, rfl, ?_, fun k hk => ?_⟩
  · show w.heap.size ≤ (grow (putRowK encL 2 (Sort.ahead w q) g 0 d) os).heap.size
    simp [grow, putRowK, putRow, mapBlock, Sort.ahead]
  · unfold sortWorldK
    rw [heap_grow_old _ _ (by simp [putRowK, putRow, mapBlock, Sort.ahead]; omega)]
    have : g ≠ k := by omega
    simp [putRowK, putRow, mapBlock, Sort.ahead, Array.getElem?_modify, this]

set_option maxHeartbeats 1000000 in
theorem sort_any (B g n cap : Nat) (ls : List Lb) (w : World) (hl : ls.length = n) (h : LabW w g ls) (hg : g < w.heap.size) (hB : B ≤ w.heap.size) (hBg : B ≤ g) (hn : n ≤ 1024) :
    Calls Ybaf.prog 16 #[.slice (some ⟨g, 0, none⟩) n cap, .func (.func 8) #[] #[]] w fun e w' => e = .returned (.tuple #[]) ∧ ∃ ls' : List Lb, ls'.Perm ls ∧ InOrder ls' ∧ LabW w' g ls' ∧ RowKit.Below B w w' := by
  subst hl
  have eg : ∀ args w, (callFunc 8 args).run Ybaf.prog w = .ok (.enter 8 args) w := enters_of Ybaf.func8 (by kernel_rfl) rfl
  have hcon := AnyQ.slices_SortFunc Ybaf.sortLab 2 Ybaf.isAgg26 Ybaf.sizeOf26 encL (fun _ => rfl) (fun x v hv => by simp [encL] at hv; rcases hv with rfl | rfl <;> rfl) cfL swoL 8 #[] g 0 cap ls.toArray w eg (cmpLays8 g 0 _ w) h.holds hg (by simp; omega)
  refine Calls.mono (R := _) hcon ?_
  rintro e w' ⟨rfl, d', q, os, hp, hs, rfl⟩
  have hsz : d'.size = ls.length := by simpa using hp.1
  refine ⟨rfl, d'.toList, ?_, ?_, ?_, below_sortK hB hBg⟩
  · have := hp.2.2
    rw [List.size_toArray] at this
    rw [show d'.extract 0 ls.length = d' by rw [← hsz]; exact Array.extract_size, show ls.toArray.extract 0 ls.length = ls.toArray by simp] at this
    simpa using this
  · unfold InOrder
    rw [List.pairwise_iff_getElem]
    intro i j hi hj hij
    have hj' : j < d'.size := by simpa using hj
    have hi' : i < d'.size := by simpa using hi
    have := hs i j (Nat.zero_le _) hij (by simpa [hsz] using hj')
    unfold ltOf cfL cmpQ at this
    rw [getElem!_pos d' j hj', getElem!_pos d' i hi'] at this
    simp only [decide_eq_false_iff_not] at this
    rw [cb_swap]
    simp only [Array.getElem_toList]
    omega
  · exact LabW.of (holdsK_sortWorldK _ _ _ _ _ _ _ _ _ hg h.holds (by simpa using hsz))
end Go.Proofs.YbulkbsqFmt
