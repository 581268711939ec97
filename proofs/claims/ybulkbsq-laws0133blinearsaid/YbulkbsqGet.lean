/- Labels.Get and the linear search by contracts. -/
import Derived.Test.YbulkbsqFilter
import Derived.Test.YbulkbsqShelf
import Derived.Test.YbulkbsqOrder
namespace Go.Proofs.Ybulkbsq
open Go.RowKit Go.WideShapes

/-- How a name stands to q. -/
def cmpQ (x q : ByteArray) : Int := Lib.compareBytes x.data.toList q.data.toList

theorem cmpQ_zero (x q : ByteArray) : cmpQ x q = 0 ↔ x = q := by
  unfold cmpQ
  exact ⟨fun h => bytes_inj (cb_eq _ _ h), fun h => by rw [h]; exact cb_self _⟩

/-- The value of the first label of that name. -/
def lookup (ls : List Lb) (q : ByteArray) : ByteArray := ((ls.find? fun l => decide (l.1 = q)).map (·.2)).getD ByteArray.empty

theorem lookup_hit (ls : List Lb) (q : ByteArray) (k : Nat) (hk : k < ls.length) (hlow : ∀ j, j < k → (ls.getD j noL).1 ≠ q) (h : (ls.getD k noL).1 = q) : lookup ls q = (ls.getD k noL).2 := by
  unfold lookup
  have : ls.find? (fun l => decide (l.1 = q)) = some ls[k] := by
    rw [List.find?_eq_some_iff_getElem]
    refine ⟨by simpa [hk] using h, k, hk, rfl, fun j hj => ?_⟩
    have := hlow j hj
    simpa [show j < ls.length by omega] using this
  rw [this]
  simp [hk]

theorem lookup_miss (ls : List Lb) (q : ByteArray) (h : ∀ j, j < ls.length → (ls.getD j noL).1 ≠ q) : lookup ls q = ByteArray.empty := by
  unfold lookup
  have : ls.find? (fun l => decide (l.1 = q)) = none := by
    rw [List.find?_eq_none]
    intro x hx
    obtain ⟨j, hj, rfl⟩ := List.getElem_of_mem hx
    have := h j hj
    simpa [hj] using this
  rw [this]
  rfl

set_option maxHeartbeats 400000 in
theorem get1 (x y q : ByteArray) (w : World) :
    Calls Yba.prog 21 #[.agg #[.string x, .string y], .string q] w fun e w' => e = .returned (.int .i64 (cmpQ x q)) ∧ w' = w.alloc (.cells #[.string x, .string y] 53) := by
  go_enter Yba.func21, Yba.ntmps21
  go_wp2_with (go_at_call 22; refine (Yba.strings_Compare _ _ _).mono ?_; rintro e w' ⟨rfl, rfl⟩)
  go_ret
  exact ⟨rfl, rfl⟩

/-- What the binary search hands back: the first place whose name is not smaller than q; whether it holds q. -/
def Searched (w : World) (ls : List Lb) (n : Nat) (q : ByteArray) (e : Ending) (w' : World) : Prop :=
  ∃ (i : Nat) (f : Bool), e = .returned (.tuple #[.int .i64 i, .bool f]) ∧ i ≤ n ∧ (∀ j, j < i → cmpQ (ls.getD j noL).1 q < 0) ∧
      (∀ j, i ≤ j → j < n → 0 ≤ cmpQ (ls.getD j noL).1 q) ∧ f = decide (i < n ∧ cmpQ (ls.getD i noL).1 q = 0) ∧ Below w.heap.size w w'

set_option maxHeartbeats 1000000 in
set_option maxRecDepth 100000 in
theorem bsearch_pos (b off n c : Nat) (ls : List Lb) (q : ByteArray) (w : World) (hl : ls.length = n) (hn : n ≤ 100000) (hb : b < w.heap.size)
    (hc : ∀ i, i < n → w.cell? ⟨b, off + i * 2, none⟩ = some (.string (ls.getD i noL).1) ∧ w.cell? ⟨b, off + i * 2 + 1, none⟩ = some (.string (ls.getD i noL).2))
    (hm : ∀ j k, j ≤ k → k < n → cmpQ (ls.getD k noL).1 q < 0 → cmpQ (ls.getD j noL).1 q < 0) :
    Calls Yba.prog 20 #[.slice (some ⟨b, off, none⟩) n c, .string q, .func (.func 21) #[] #[]] w fun e w' => Searched w ls n q e w' := by
  have HC := hide hc
  have HM := hide hm
  clear hc hm
  go_enter Yba.func20, Yba.ntmps20
  go_wp2
  go_loopw [9, 10] (fun vi vj wr => ∃ i j : Nat, vi = .int .i64 i ∧ vj = .int .i64 j ∧ i ≤ j ∧ j ≤ n ∧ (∀ k, k < i → cmpQ (ls.getD k noL).1 q < 0) ∧ (∀ k, j ≤ k → k < n → 0 ≤ cmpQ (ls.getD k noL).1 q) ∧ Below w.heap.size w wr) (fun vi vj _ => (intOf vj).toNat - (intOf vi).toNat)
  case atStart => exact ⟨0, n, rfl, rfl, Nat.zero_le _, Nat.le_refl _, fun k hk => absurd hk (by omega), fun k h1 h2 => absurd h1 (by omega), Below.refl _ _⟩
  case round =>
    obtain ⟨i, j, rfl, rfl, hij, hjn, hlo, hhi, hbr⟩ := hrel
    have HLO := hide hlo
    have HHI := hide hhi
    have hbs := hbr.size
    have HB := hide hbr
    clear hlo hhi
    by_cases hlt : i < j
    · obtain ⟨h, hh⟩ : ∃ h, h = (i + j) / 2 := ⟨_, rfl⟩
      have hh1 : i ≤ h := by omega
      have hh2 : h < j := by omega
      obtain ⟨q0, q1⟩ := HC.out h (by omega)
      have r0 := hbr.cell (p := ⟨b, off + h * 2, none⟩) hb
      rw [q0] at r0
      have r1 := hbr.cell (p := ⟨b, off + h * 2 + 1, none⟩) hb
      rw [q1] at r1
      obtain ⟨x, hx⟩ : ∃ x, x = ls.getD h noL := ⟨_, rfl⟩
      rw [← hx] at r0 r1
      have HX := hide hx
      have HH := hide hh
      rw [hh] at r0 r1
      clear q0 q1 hbr hx hh
      go_wp2_with fail
      refine (get1 x.1 x.2 q wr).mono ?_
      rintro e w' ⟨rfl, rfl⟩
      by_cases hneg : cmpQ x.1 q < 0
      · go_wp2
        go_roundw
        case rel =>
          refine ⟨h + 1, j, by rw [HH.out]; go_num, rfl, by omega, hjn, fun k hk => ?_, HHI.out, HB.out.alloc hbs _⟩
          exact HM.out k h (by omega) (by omega) (by rw [← HX.out]; exact hneg)
        case measure => have := HH.out; simp [intOf]; omega
      · go_wp2
        go_roundw
        case rel =>
          refine ⟨i, h, rfl, by rw [HH.out]; go_num, by omega, by omega, HLO.out, fun k h1 h2 => ?_, HB.out.alloc hbs _⟩
          refine Int.not_lt.1 fun hk => ?_
          have := HM.out h k h1 h2 hk
          rw [← HX.out] at this
          omega
        case measure => have := HH.out; simp [intOf]; omega
    · obtain rfl : i = j := by omega
      by_cases hin : i < n
      · obtain ⟨q0, q1⟩ := HC.out i hin
        have r0 := hbr.cell (p := ⟨b, off + i * 2, none⟩) hb
        rw [q0] at r0
        have r1 := hbr.cell (p := ⟨b, off + i * 2 + 1, none⟩) hb
        rw [q1] at r1
        obtain ⟨x, hx⟩ : ∃ x, x = ls.getD i noL := ⟨_, rfl⟩
        rw [← hx] at r0 r1
        have HX := hide hx
        clear q0 q1 hbr hx
        have hi1 : (i : Int) < (n : Int) := by omega
        go_wp2_with fail
        refine (get1 x.1 x.2 q wr).mono ?_
        rintro e w' ⟨rfl, rfl⟩
        go_wp2
        go_ret2
        refine ⟨i, _, rfl, hjn, HLO.out, HHI.out, ?_, HB.out.alloc hbs _⟩
        rw [← HX.out, Bool.eq_iff_iff]
        simp [hin]
      · clear hbr
        have hi1 : ¬ (i : Int) < (n : Int) := by omega
        go_wp2
        go_ret2
        exact ⟨i, _, rfl, hjn, HLO.out, HHI.out, by simp [hin], HB.out⟩
set_option maxHeartbeats 400000 in
set_option maxRecDepth 100000 in
theorem bsearch_zero (a : Option Addr) (c : Nat) (q : ByteArray) (w : World) :
    Calls Yba.prog 20 #[.slice a 0 c, .string q, .func (.func 21) #[] #[]] w fun e w' => Searched w [] 0 q e w' := by
  go_enter Yba.func20, Yba.ntmps20
  go_wp2
  refine wp_loop_rounds 1 ?_
  rw [rounds_succ]
  go_wp2
  go_ret2
  exact ⟨0, _, rfl, Nat.le_refl _, fun j hj => absurd hj (by omega), fun j _ hj => absurd hj (by omega), by simp, Below.refl _ _⟩

/-- The names stand in order. -/
def InOrder (ls : List Lb) : Prop := ls.Pairwise fun a b => Lib.compareBytes a.1.data.toList b.1.data.toList ≤ 0

theorem InOrder.le {ls : List Lb} (h : InOrder ls) {j k : Nat} (hjk : j ≤ k) (hk : k < ls.length) : Lib.compareBytes (ls.getD j noL).1.data.toList (ls.getD k noL).1.data.toList ≤ 0 := by
  rcases Nat.lt_or_eq_of_le hjk with hlt | rfl
  · have := List.pairwise_iff_getElem.1 h j k (by omega) hk hlt
    simpa [hk, show j < ls.length by omega] using this
  · rw [cb_self]; decide

theorem bsearch_any {ok : Nat → Prop} (a : Option Addr) (n c : Nat) (ls : List Lb) (q : ByteArray) (w : World) (hr : LabRow ok w a n ls) (hn : n ≤ 100000) (ho : InOrder ls) :
    Calls Yba.prog 20 #[.slice a n c, .string q, .func (.func 21) #[] #[]] w fun e w' => Searched w ls n q e w' := by
  have hl := hr.1
  by_cases h0 : n = 0
  · subst h0
    have : ls = [] := List.eq_nil_of_length_eq_zero hl
    subst this
    exact bsearch_zero a c q w
  · rcases hr.2 with h | ⟨b, off, rfl, _, hc⟩
    · exact absurd h h0
    · exact bsearch_pos b off n c ls q w hl hn (cell_lt (hc 0 (by omega)).1) hc (fun j k hjk hk hlt => cb_le_lt _ _ _ (ho.le hjk (by omega)) hlt)

/-- What the search says of the look-up. -/
theorem searched_lookup {ls : List Lb} {n i : Nat} {q : ByteArray} (hl : ls.length = n) (ho : InOrder ls) (hlo : ∀ j, j < i → cmpQ (ls.getD j noL).1 q < 0) (hhi : ∀ j, i ≤ j → j < n → 0 ≤ cmpQ (ls.getD j noL).1 q) :
    (i < n ∧ cmpQ (ls.getD i noL).1 q = 0 → lookup ls q = (ls.getD i noL).2) ∧ (¬ (i < n ∧ cmpQ (ls.getD i noL).1 q = 0) → lookup ls q = ByteArray.empty) := by
  constructor
  · rintro ⟨hi, hz⟩
    exact lookup_hit ls q i (by omega) (fun j hj h => by have := hlo j hj; rw [(cmpQ_zero _ _).2 h] at this; omega) ((cmpQ_zero _ _).1 hz)
  · intro hno
    refine lookup_miss ls q fun j hj h => ?_
    have hz := (cmpQ_zero _ _).2 h
    rcases Nat.lt_or_ge j i with hji | hij
    · have := hlo j hji; omega
    · have hin : i < n := by omega
      have h0 := hhi i (Nat.le_refl _) hin
      have hpos : 0 < cmpQ (ls.getD i noL).1 q := by
        rcases Int.lt_or_eq_of_le h0 with h | h
        · exact h
        · exact absurd ⟨hin, h.symm⟩ hno
      have := cb_gt _ _ _ (ho.le hij hj) hpos
      unfold cmpQ at hz
      omega

set_option maxHeartbeats 400000 in
set_option maxRecDepth 100000 in
theorem get_any {ok : Nat → Prop} (a : Option Addr) (n c : Nat) (ls : List Lb) (q : ByteArray) (w : World) (hr : LabRow ok w a n ls) (hn : n ≤ 100000) (ho : InOrder ls) :
    Calls Yba.prog 13 #[.slice a n c, .string q] w fun e w' => e = .returned (.string (lookup ls q)) ∧ Below w.heap.size w w' := by
  have HS := hide (bsearch_any a n c ls q w hr hn ho)
  have HR := hide hr
  have hl := hr.1
  by_cases h0 : n = 0
  · subst h0
    have hls : ls = [] := List.eq_nil_of_length_eq_zero hl
    subst hls
    clear hr HR
    go_enter Yba.func13, Yba.ntmps13
    go_wp2_with fail
    refine HS.out.mono ?_
    rintro e w' ⟨i, f, rfl, hi, hlo, hhi, hf, hb⟩
    have hff : f = false := by rw [hf]; simp
    have HB := hide hb
    clear hf hlo hhi hb
    subst hff
    go_wp2
    go_ret
    exact ⟨rfl, HB.out⟩
  rcases hr.2 with h | ⟨b, off, ha, _, hc⟩
  · exact absurd h h0
  subst ha
  have HC := hide hc
  clear hr hc HR
  go_enter Yba.func13, Yba.ntmps13
  go_wp2_with fail
  refine HS.out.mono ?_
  rintro e w' ⟨i, f, rfl, hi, hlo, hhi, hf, hb⟩
  obtain ⟨L1, L2⟩ := searched_lookup hl ho hlo hhi
  by_cases hhit : i < n ∧ cmpQ (ls.getD i noL).1 q = 0
  · have hff : f = true := by rw [hf]; simpa using hhit
    have hL := L1 hhit
    have q1 := (HC.out i hhit.1).2
    have r1 := hb.cell (cell_lt q1)
    rw [q1] at r1
    have hi1 : (i : Int) < (n : Int) := by omega
    have HB := hide hb
    have HL := hide hL
    clear hf hlo hhi hb hhit L1 L2 hL q1
    subst hff
    go_wp2
    go_ret
    exact ⟨by rw [HL.out]; rfl, HB.out⟩
  · have hff : f = false := by rw [hf]; simpa using hhit
    have HL := hide (L2 hhit)
    have HB := hide hb
    clear hf hlo hhi hb hhit L1 L2
    subst hff
    go_wp2
    go_ret
    exact ⟨by rw [HL.out]; rfl, HB.out⟩

set_option maxHeartbeats 400000 in
set_option maxRecDepth 100000 in
theorem linear_pos (b off n c : Nat) (ls : List Lb) (q : ByteArray) (w : World) (hl : ls.length = n) (hn : n ≤ 100000)
    (hc : ∀ i, i < n → w.cell? ⟨b, off + i * 2, none⟩ = some (.string (ls.getD i noL).1) ∧ w.cell? ⟨b, off + i * 2 + 1, none⟩ = some (.string (ls.getD i noL).2)) :
    Calls Yba.prog 14 #[.slice (some ⟨b, off, none⟩) n c, .string q] w fun e w' => e = .returned (.string (lookup ls q)) ∧ w' = w := by
  have HC := hide hc
  clear hc
  go_enter Yba.func14, Yba.ntmps14
  go_wp2
  go_loop [5] (fun i => ∃ k : Nat, k ≤ n ∧ i = .int .i64 k ∧ ∀ j, j < k → (ls.getD j noL).1 ≠ q) (fun i => n - (intOf i).toNat)
  case atStart => exact ⟨0, Nat.zero_le _, rfl, fun j hj => absurd hj (by omega)⟩
  case round =>
    obtain ⟨k, hk, rfl, hno⟩ := hrel
    have HNO := hide hno
    clear hno
    by_cases hlt : k < n
    · obtain ⟨q0, q1⟩ := HC.out k hlt
      have hk1 : (k : Int) < (n : Int) := by omega
      by_cases hh : (ls.getD k noL).1 = q
      · have HF := hide (lookup_hit ls q k (by omega) HNO.out hh)
        have hb : ((ls.getD k noL).1.toList == q.toList) = true := by rw [toList_eq]; simpa using hh
        obtain ⟨x, hx⟩ : ∃ x, x = ls.getD k noL := ⟨_, rfl⟩
        rw [← hx] at q0 q1 hb HF
        clear hh hx
        go_wp2
        go_ret
        exact ⟨by rw [HF.out]; rfl, rfl⟩
      · have HS : Hid (∀ j, j < k + 1 → (ls.getD j noL).1 ≠ q) := hide fun j hj => by
          rcases Nat.lt_or_eq_of_le (Nat.le_of_lt_succ hj) with h | rfl
          · exact HNO.out j h
          · exact hh
        have hb : ((ls.getD k noL).1.toList == q.toList) = false := by rw [toList_eq]; simpa using hh
        obtain ⟨x, hx⟩ : ∃ x, x = ls.getD k noL := ⟨_, rfl⟩
        rw [← hx] at q0 q1 hb
        clear hh hx
        go_wp2
        go_round
        case rel => exact ⟨k + 1, by omega, by go_num, HS.out⟩
        case measure => simp [intOf]; omega
    · obtain rfl : k = n := by omega
      have HF := hide (lookup_miss ls q (by rw [hl]; exact HNO.out))
      go_wp2
      go_ret
      exact ⟨by rw [HF.out]; rfl, rfl⟩

set_option maxHeartbeats 400000 in
theorem linear_zero (a : Option Addr) (c : Nat) (q : ByteArray) (w : World) :
    Calls Yba.prog 14 #[.slice a 0 c, .string q] w fun e w' => e = .returned (.string (lookup [] q)) ∧ w' = w := by
  go_enter Yba.func14, Yba.ntmps14
  go_wp2
  refine wp_loop_rounds 1 ?_
  rw [rounds_succ]
  go_wp2
  go_ret
  exact ⟨rfl, rfl⟩

theorem linear_any {ok : Nat → Prop} (a : Option Addr) (n c : Nat) (ls : List Lb) (q : ByteArray) (w : World) (hr : LabRow ok w a n ls) (hn : n ≤ 100000) :
    Calls Yba.prog 14 #[.slice a n c, .string q] w fun e w' => e = .returned (.string (lookup ls q)) ∧ w' = w := by
  rcases hr.2 with h | ⟨b, off, rfl, _, hc⟩
  · subst h
    have : ls = [] := List.eq_nil_of_length_eq_zero hr.1
    subst this
    exact linear_zero a c q w
  · exact linear_pos b off n c ls q w hr.1 hn hc
end Go.Proofs.Ybulkbsq
