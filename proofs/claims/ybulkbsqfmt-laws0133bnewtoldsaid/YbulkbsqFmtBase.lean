/- Small notions of this seat's proofs: labels in memory; Labels.Get by its contract. -/
import Derived.Test.YbulkbsqFmtRows
import Derived.Test.YbulkbsqFmtShelf
import Derived.Test.YbulkbsqFmtOrder
import Derived.WalkKit
import Derived.WalkSpells
import Derived.WalkLawsBesides
import Derived.BigRegion
import Derived.BigQuiet
import Derived.Deep.QuietTactic
import Derived.Deep.RegionWith
import Derived.Deep.RegionLaw
import Derived.Deep.DeepCutAuto
import Derived.Deep.Light
import Derived.Laws.EntriesVeiled
import Derived.WideShapes
namespace Go.Proofs.YbulkbsqFmt
open Go.RowKit Go.WideShapes

theorem hide {p : Prop} (h : p) : Hid p := h

theorem cell_lt {w : World} {p : Addr} {v : Value} (h : w.cell? p = some v) : p.block < w.heap.size := by
  by_cases hb : p.block < w.heap.size
  · exact hb
  · have : w.heap[p.block]? = none := by simp; omega
    simp [World.cell?, this] at h

theorem bcell {B : Nat} {W w1 : World} (hb : Below B W w1) : (∀ b o, b < B → w1.cell? ⟨b, o, none⟩ = W.cell? ⟨b, o, none⟩) ∧ (∀ b o, b < B → w1.frozen? ⟨b, o, none⟩ = W.frozen? ⟨b, o, none⟩) :=
  ⟨fun b o h => hb.cell (p := ⟨b, o, none⟩) h, fun b o h => hb.frozen (p := ⟨b, o, none⟩) h⟩

theorem toList_eq (x y : ByteArray) : (x.toList == y.toList) = decide (x = y) := by
  rw [Bool.eq_iff_iff]
  simp only [ByteArray.toList_eq, beq_iff_eq, decide_eq_true_eq]
  exact ⟨bytes_inj, fun h => by rw [h]⟩

abbrev Lb := ByteArray × ByteArray
def noL : Lb := (ByteArray.empty, ByteArray.empty)
/-- Labels as cells. -/
def labCells (ls : List Lb) : List Value := ls.flatMap fun l => [.string l.1, .string l.2]

/-- The slice (a, n, ..) leads to the labels 'ls', in blocks that 'ok' lets. -/
def LabRow (ok : Nat → Prop) (w : World) (a : Option Addr) (n : Nat) (ls : List Lb) : Prop :=
  ls.length = n ∧ (n = 0 ∨ ∃ b off : Nat, a = some ⟨b, off, none⟩ ∧ ok b ∧ ∀ i, i < n → w.cell? ⟨b, off + i * 2, none⟩ = some (.string (ls.getD i noL).1) ∧ w.cell? ⟨b, off + i * 2 + 1, none⟩ = some (.string (ls.getD i noL).2))

theorem Ybaf.info26 : (Ybaf.prog.info? 26).map (fun i => (i.zero, i.size, i.bytes)) = some (some (.agg #[.string ByteArray.empty, .string ByteArray.empty]), 2, 32) := by kernel_rfl


theorem labCells_append (a b : List Lb) : labCells (a ++ b) = labCells a ++ labCells b := by simp [labCells]
theorem labCells_length (a : List Lb) : (labCells a).length = a.length * 2 := by
  induction a with
  | nil => rfl
  | cons x r ih => simp [labCells] at ih ⊢; omega
theorem labCells_one (l : Lb) : labCells [l] = [.string l.1, .string l.2] := rfl

/-- The two cells of a label that lies in a block of its own. -/
theorem cells_lab (w : World) (x y : Value) (t : TypeId) : ∀ j u, [x, y][j]? = some u → (w.alloc (.cells #[x, y] t)).cell? ((⟨w.heap.size, 0, none⟩ : Addr).add j) = some u := by
  intro j u hj
  match j, hj with
  | 0, hj => simp at hj; subst hj; rw [add_plain]; simp
  | 1, hj => simp at hj; subst hj; rw [add_plain]; simp

theorem LabRow.below {ok : Nat → Prop} {B : Nat} {w w' : World} {a : Option Addr} {n : Nat} {ls : List Lb} (h : LabRow ok w a n ls) (hb : Below B w w') (hB : w.heap.size ≤ B) : LabRow ok w' a n ls := by
  refine ⟨h.1, ?_⟩
  rcases h.2 with h0 | ⟨b, off, hx, ho, hc⟩
  · exact .inl h0
  · refine .inr ⟨b, off, hx, ho, fun i hi => ?_⟩
    obtain ⟨c0, c1⟩ := hc i hi
    exact ⟨by rw [hb.cell (Nat.lt_of_lt_of_le (cell_lt c0) hB)]; exact c0, by rw [hb.cell (Nat.lt_of_lt_of_le (cell_lt c1) hB)]; exact c1⟩

/-- How a name stands to q. -/
def cmpQ (x q : ByteArray) : Int := Lib.compareBytes x.data.toList q.data.toList

theorem cmpQ_zero (x q : ByteArray) : cmpQ x q = 0 ↔ x = q := by
  unfold cmpQ
  exact ⟨fun h => bytes_inj (cb_eq _ _ h), fun h => by rw [h]; exact cb_self _⟩

/-- The value of the first label of that name. -/
def lookup (ls : List Lb) (q : ByteArray) : ByteArray := ((ls.find? fun l => decide (l.1 = q)).map (·.2)).getD ByteArray.empty

theorem lookup_hit (ls : List Lb) (q : ByteArray) (k : Nat) (hk : k < ls.length) (hlow : ∀ j, j < k → (ls.getD j noL).1 ≠ q) (h : (ls.getD k noL).1 = q) : lookup ls q = (ls.getD k noL).2 := by
  unfold lookup
  have : ls.find? (fun l => decide (l.1 = q)) = some ls[k] := by
    rw [List.find?_eq_some_iff_getElem]
    refine ⟨by simpa [hk] using h, k, hk, rfl, fun j hj => ?_⟩
    have := hlow j hj
    simpa [show j < ls.length by omega] using this
  rw [this]
  simp [hk]

theorem lookup_miss (ls : List Lb) (q : ByteArray) (h : ∀ j, j < ls.length → (ls.getD j noL).1 ≠ q) : lookup ls q = ByteArray.empty := by
  unfold lookup
  have : ls.find? (fun l => decide (l.1 = q)) = none := by
    rw [List.find?_eq_none]
    intro x hx
    obtain ⟨j, hj, rfl⟩ := List.getElem_of_mem hx
    have := h j hj
    simpa [hj] using this
  rw [this]
  rfl

set_option maxHeartbeats 400000 in
theorem get1 (x y q : ByteArray) (w : World) :
    Calls Ybaf.prog 13 #[.agg #[.string x, .string y], .string q] w fun e w' => e = .returned (.int .i64 (cmpQ x q)) ∧ w' = w.alloc (.cells #[.string x, .string y] 26) := by
  go_enter Ybaf.func13, Ybaf.ntmps13
  go_wp2_with (go_at_call 14; refine (Ybaf.strings_Compare _ _ _).mono ?_; rintro e w' ⟨rfl, rfl⟩)
  go_ret
  exact ⟨rfl, rfl⟩

/-- What the binary search hands back: the first place whose name is not smaller than q; whether it holds q. -/
def Searched (w : World) (ls : List Lb) (n : Nat) (q : ByteArray) (e : Ending) (w' : World) : Prop :=
  ∃ (i : Nat) (f : Bool), e = .returned (.tuple #[.int .i64 i, .bool f]) ∧ i ≤ n ∧ (∀ j, j < i → cmpQ (ls.getD j noL).1 q < 0) ∧
      (∀ j, i ≤ j → j < n → 0 ≤ cmpQ (ls.getD j noL).1 q) ∧ f = decide (i < n ∧ cmpQ (ls.getD i noL).1 q = 0) ∧ Below w.heap.size w w'

set_option maxHeartbeats 1000000 in
set_option maxRecDepth 100000 in
theorem bsearch_pos (b off n c : Nat) (ls : List Lb) (q : ByteArray) (w : World) (hl : ls.length = n) (hn : n ≤ 100000) (hb : b < w.heap.size)
    (hc : ∀ i, i < n → w.cell? ⟨b, off + i * 2, none⟩ = some (.string (ls.getD i noL).1) ∧ w.cell? ⟨b, off + i * 2 + 1, none⟩ = some (.string (ls.getD i noL).2))
    (hm : ∀ j k, j ≤ k → k < n → cmpQ (ls.getD k noL).1 q < 0 → cmpQ (ls.getD j noL).1 q < 0) :
    Calls Ybaf.prog 12 #[.slice (some ⟨b, off, none⟩) n c, .string q, .func (.func 13) #[] #[]] w fun e w' => Searched w ls n q e w' := by
  have HC := hide hc
  have HM := hide hm
  clear hc hm
  go_enter Ybaf.func12, Ybaf.ntmps12
  go_wp2
  go_loopw [9, 10] (fun vi vj wr => ∃ i j : Nat, vi = .int .i64 i ∧ vj = .int .i64 j ∧ i ≤ j ∧ j ≤ n ∧ (∀ k, k < i → cmpQ (ls.getD k noL).1 q < 0) ∧ (∀ k, j ≤ k → k < n → 0 ≤ cmpQ (ls.getD k noL).1 q) ∧ Below w.heap.size w wr) (fun vi vj _ => (intOf vj).toNat - (intOf vi).toNat)
  case atStart => exact ⟨0, n, rfl, rfl, Nat.zero_le _, Nat.le_refl _, fun k hk => absurd hk (by omega), fun k h1 h2 => absurd h1 (by omega), Below.refl _ _⟩
  case round =>
    obtain ⟨i, j, rfl, rfl, hij, hjn, hlo, hhi, hbr⟩ := hrel
    have HLO := hide hlo
    have HHI := hide hhi
    have hbs := hbr.size
    have HB := hide hbr
    clear hlo hhi
    by_cases hlt : i < j
    · obtain ⟨h, hh⟩ : ∃ h, h = (i + j) / 2 := ⟨_, rfl⟩
      have hh1 : i ≤ h := by omega
      have hh2 : h < j := by omega
      obtain ⟨q0, q1⟩ := HC.out h (by omega)
      have r0 := hbr.cell (p := ⟨b, off + h * 2, none⟩) hb
      rw [q0] at r0
      have r1 := hbr.cell (p := ⟨b, off + h * 2 + 1, none⟩) hb
      rw [q1] at r1
      obtain ⟨x, hx⟩ : ∃ x, x = ls.getD h noL := ⟨_, rfl⟩
      rw [← hx] at r0 r1
      have HX := hide hx
      have HH := hide hh
      rw [hh] at r0 r1
      clear q0 q1 hbr hx hh
      go_wp2_with fail
      refine (get1 x.1 x.2 q wr).mono ?_
      rintro e w' ⟨rfl, rfl⟩
      by_cases hneg : cmpQ x.1 q < 0
      · go_wp2
        go_roundw
        case rel =>
          refine ⟨h + 1, j, by rw [HH.out]; go_num, rfl, by omega, hjn, fun k hk => ?_, HHI.out, HB.out.alloc hbs _⟩
          exact HM.out k h (by omega) (by omega) (by rw [← HX.out]; exact hneg)
        case measure => have := HH.out; simp [intOf]; omega
      · go_wp2
        go_roundw
        case rel =>
          refine ⟨i, h, rfl, by rw [HH.out]; go_num, by omega, by omega, HLO.out, fun k h1 h2 => ?_, HB.out.alloc hbs _⟩
          refine Int.not_lt.1 fun hk => ?_
          have := HM.out h k h1 h2 hk
          rw [← HX.out] at this
          omega
        case measure => have := HH.out; simp [intOf]; omega
    · obtain rfl : i = j := by omega
      by_cases hin : i < n
      · obtain ⟨q0, q1⟩ := HC.out i hin
        have r0 := hbr.cell (p := ⟨b, off + i * 2, none⟩) hb
        rw [q0] at r0
        have r1 := hbr.cell (p := ⟨b, off + i * 2 + 1, none⟩) hb
        rw [q1] at r1
        obtain ⟨x, hx⟩ : ∃ x, x = ls.getD i noL := ⟨_, rfl⟩
        rw [← hx] at r0 r1
        have HX := hide hx
        clear q0 q1 hbr hx
        have hi1 : (i : Int) < (n : Int) := by omega
        go_wp2_with fail
        refine (get1 x.1 x.2 q wr).mono ?_
        rintro e w' ⟨rfl, rfl⟩
        go_wp2
        go_ret2
        refine ⟨i, _, rfl, hjn, HLO.out, HHI.out, ?_, HB.out.alloc hbs _⟩
        rw [← HX.out, Bool.eq_iff_iff]
        simp [hin]
      · clear hbr
        have hi1 : ¬ (i : Int) < (n : Int) := by omega
        go_wp2
        go_ret2
        exact ⟨i, _, rfl, hjn, HLO.out, HHI.out, by simp [hin], HB.out⟩
set_option maxHeartbeats 400000 in
set_option maxRecDepth 100000 in
theorem bsearch_zero (a : Option Addr) (c : Nat) (q : ByteArray) (w : World) :
    Calls Ybaf.prog 12 #[.slice a 0 c, .string q, .func (.func 13) #[] #[]] w fun e w' => Searched w [] 0 q e w' := by
  go_enter Ybaf.func12, Ybaf.ntmps12
  go_wp2
  refine wp_loop_rounds 1 ?_
  rw [rounds_succ]
  go_wp2
  go_ret2
  exact ⟨0, _, rfl, Nat.le_refl _, fun j hj => absurd hj (by omega), fun j _ hj => absurd hj (by omega), by simp, Below.refl _ _⟩

/-- The names stand in order. -/
def InOrder (ls : List Lb) : Prop := ls.Pairwise fun a b => Lib.compareBytes a.1.data.toList b.1.data.toList ≤ 0

theorem InOrder.le {ls : List Lb} (h : InOrder ls) {j k : Nat} (hjk : j ≤ k) (hk : k < ls.length) : Lib.compareBytes (ls.getD j noL).1.data.toList (ls.getD k noL).1.data.toList ≤ 0 := by
  rcases Nat.lt_or_eq_of_le hjk with hlt | rfl
  · have := List.pairwise_iff_getElem.1 h j k (by omega) hk hlt
    simpa [hk, show j < ls.length by omega] using this
  · rw [cb_self]; decide

theorem bsearch_any {ok : Nat → Prop} (a : Option Addr) (n c : Nat) (ls : List Lb) (q : ByteArray) (w : World) (hr : LabRow ok w a n ls) (hn : n ≤ 100000) (ho : InOrder ls) :
    Calls Ybaf.prog 12 #[.slice a n c, .string q, .func (.func 13) #[] #[]] w fun e w' => Searched w ls n q e w' := by
  have hl := hr.1
  by_cases h0 : n = 0
  · subst h0
    have : ls = [] := List.eq_nil_of_length_eq_zero hl
    subst this
    exact bsearch_zero a c q w
  · rcases hr.2 with h | ⟨b, off, rfl, _, hc⟩
    · exact absurd h h0
    · exact bsearch_pos b off n c ls q w hl hn (cell_lt (hc 0 (by omega)).1) hc (fun j k hjk hk hlt => cb_le_lt _ _ _ (ho.le hjk (by omega)) hlt)

/-- What the search says of the look-up. -/
theorem searched_lookup {ls : List Lb} {n i : Nat} {q : ByteArray} (hl : ls.length = n) (ho : InOrder ls) (hlo : ∀ j, j < i → cmpQ (ls.getD j noL).1 q < 0) (hhi : ∀ j, i ≤ j → j < n → 0 ≤ cmpQ (ls.getD j noL).1 q) :
    (i < n ∧ cmpQ (ls.getD i noL).1 q = 0 → lookup ls q = (ls.getD i noL).2) ∧ (¬ (i < n ∧ cmpQ (ls.getD i noL).1 q = 0) → lookup ls q = ByteArray.empty) := by
  constructor
  · rintro ⟨hi, hz⟩
    exact lookup_hit ls q i (by omega) (fun j hj h => by have := hlo j hj; rw [(cmpQ_zero _ _).2 h] at this; omega) ((cmpQ_zero _ _).1 hz)
  · intro hno
    refine lookup_miss ls q fun j hj h => ?_
    have hz := (cmpQ_zero _ _).2 h
    rcases Nat.lt_or_ge j i with hji | hij
    · have := hlo j hji; omega
    · have hin : i < n := by omega
      have h0 := hhi i (Nat.le_refl _) hin
      have hpos : 0 < cmpQ (ls.getD i noL).1 q := by
        rcases Int.lt_or_eq_of_le h0 with h | h
        · exact h
        · exact absurd ⟨hin, h.symm⟩ hno
      have := cb_gt _ _ _ (ho.le hij hj) hpos
      unfold cmpQ at hz
      omega

set_option maxHeartbeats 400000 in
set_option maxRecDepth 100000 in
theorem get_any {ok : Nat → Prop} (a : Option Addr) (n c : Nat) (ls : List Lb) (q : ByteArray) (w : World) (hr : LabRow ok w a n ls) (hn : n ≤ 100000) (ho : InOrder ls) :
    Calls Ybaf.prog 5 #[.slice a n c, .string q] w fun e w' => e = .returned (.string (lookup ls q)) ∧ Below w.heap.size w w' := by
  have HS := hide (bsearch_any a n c ls q w hr hn ho)
  have HR := hide hr
  have hl := hr.1
  by_cases h0 : n = 0
  · subst h0
    have hls : ls = [] := List.eq_nil_of_length_eq_zero hl
    subst hls
    clear hr HR
    go_enter Ybaf.func5, Ybaf.ntmps5
    go_wp2_with fail
    refine HS.out.mono ?_
    rintro e w' ⟨i, f, rfl, hi, hlo, hhi, hf, hb⟩
    have hff : f = false := by rw [hf]; simp
    have HB := hide hb
    clear hf hlo hhi hb
    subst hff
    go_wp2
    go_ret
    exact ⟨rfl, HB.out⟩
  rcases hr.2 with h | ⟨b, off, ha, _, hc⟩
  · exact absurd h h0
  subst ha
  have HC := hide hc
  clear hr hc HR
  go_enter Ybaf.func5, Ybaf.ntmps5
  go_wp2_with fail
  refine HS.out.mono ?_
  rintro e w' ⟨i, f, rfl, hi, hlo, hhi, hf, hb⟩
  obtain ⟨L1, L2⟩ := searched_lookup hl ho hlo hhi
  by_cases hhit : i < n ∧ cmpQ (ls.getD i noL).1 q = 0
  · have hff : f = true := by rw [hf]; simpa using hhit
    have hL := L1 hhit
    have q1 := (HC.out i hhit.1).2
    have r1 := hb.cell (cell_lt q1)
    rw [q1] at r1
    have hi1 : (i : Int) < (n : Int) := by omega
    have HB := hide hb
    have HL := hide hL
    clear hf hlo hhi hb hhit L1 L2 hL q1
    subst hff
    go_wp2
    go_ret
    exact ⟨by rw [HL.out]; rfl, HB.out⟩
  · have hff : f = false := by rw [hf]; simpa using hhit
    have HL := hide (L2 hhit)
    have HB := hide hb
    clear hf hlo hhi hb hhit L1 L2
    subst hff
    go_wp2
    go_ret
    exact ⟨by rw [HL.out]; rfl, HB.out⟩

end Go.Proofs.YbulkbsqFmt
