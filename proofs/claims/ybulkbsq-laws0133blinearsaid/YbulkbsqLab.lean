/- Membership among names; labels in memory; the filter behind Keep and Drop. -/
import Derived.Test.YbulkbsqParts
import Derived.BigQuiet
import Derived.Deep.QuietTactic
namespace Go.Proofs.Ybulkbsq
open Go.RowKit Go.WideShapes

/-- Is s among ss? -/
def among (ss : List ByteArray) (s : ByteArray) : Bool := ss.any fun x => decide (x = s)

theorem toList_eq (x y : ByteArray) : (x.toList == y.toList) = decide (x = y) := by
  rw [Bool.eq_iff_iff]
  simp only [ByteArray.toList_eq, beq_iff_eq, decide_eq_true_eq]
  exact ⟨bytes_inj, fun h => by rw [h]⟩

/-- Among the first k? -/
theorem among_succ (ss : List ByteArray) (s : ByteArray) (k : Nat) (hk : k < ss.length) : among (ss.take (k + 1)) s = (among (ss.take k) s || decide (ss.getD k ByteArray.empty = s)) := by
  unfold among
  rw [List.take_succ_eq_append_getElem hk, List.any_append]
  simp only [List.any_cons, List.any_nil, Bool.or_false, List.getD_eq_getElem?_getD, List.getElem?_eq_getElem hk, Option.getD_some]

theorem among_hit (ss : List ByteArray) (s : ByteArray) (k : Nat) (hk : k < ss.length) (h : ss.getD k ByteArray.empty = s) : among ss s = true := by
  unfold among
  simp only [List.any_eq_true, decide_eq_true_eq]
  exact ⟨ss[k], List.getElem_mem hk, by simpa [hk] using h⟩

set_option maxHeartbeats 400000 in
theorem contains_pos (b off n c : Nat) (ss : List ByteArray) (s : ByteArray) (w : World) (hl : ss.length = n) (hn : n ≤ 100000) (hc : ∀ i, i < n → w.cell? ⟨b, off + i, none⟩ = some (.string (ss.getD i ByteArray.empty))) :
    Calls Yba.prog 9 #[.slice (some ⟨b, off, none⟩) n c, .string s] w fun e w' => e = .returned (.bool (among ss s)) ∧ w' = w := by
  have HC := hide hc
  clear hc
  go_enter Yba.func9, Yba.ntmps9
  go_wp2
  go_loop [5] (fun i => ∃ k : Nat, k ≤ n ∧ i = .int .i64 k ∧ among (ss.take k) s = false) (fun i => n - (intOf i).toNat)
  case atStart => exact ⟨0, Nat.zero_le _, rfl, rfl⟩
  case round =>
    obtain ⟨k, hk, rfl, hno⟩ := hrel
    have HNO := hide hno
    clear hno
    by_cases hlt : k < n
    · have q := HC.out k hlt
      have hk1 : (k : Int) < (n : Int) := by omega
      by_cases hh : ss.getD k ByteArray.empty = s
      · have HF := hide (among_hit ss s k (by omega) hh)
        have hb : ((ss.getD k ByteArray.empty).toList == s.toList) = true := by rw [toList_eq]; simpa using hh
        generalize ss.getD k ByteArray.empty = x at q hb
        clear hh
        go_wp2
        go_ret
        exact ⟨by rw [HF.out]; rfl, rfl⟩
      · have HS : Hid (among (ss.take (k + 1)) s = false) := by
          refine hide ?_
          rw [among_succ _ _ _ (by omega), HNO.out]; simpa using hh
        have hb : ((ss.getD k ByteArray.empty).toList == s.toList) = false := by rw [toList_eq]; simpa using hh
        generalize ss.getD k ByteArray.empty = x at q hb
        clear hh
        go_wp2
        go_round
        case rel => exact ⟨k + 1, by omega, by go_num, HS.out⟩
        case measure => simp [intOf]; omega
    · obtain rfl : k = n := by omega
      have HF : Hid (among ss s = false) := by
        refine hide ?_
        have := HNO.out
        rwa [List.take_of_length_le (by omega)] at this
      go_wp2
      go_ret
      exact ⟨by rw [HF.out]; rfl, rfl⟩

set_option maxHeartbeats 400000 in
theorem contains_zero (a : Option Addr) (c : Nat) (s : ByteArray) (w : World) :
    Calls Yba.prog 9 #[.slice a 0 c, .string s] w fun e w' => e = .returned (.bool false) ∧ w' = w := by
  go_enter Yba.func9, Yba.ntmps9
  go_wp2
  refine wp_loop_rounds 1 ?_
  rw [rounds_succ]
  go_wp2
  go_ret
  exact ⟨rfl, rfl⟩

theorem contains_any {ok : Nat → Prop} (a : Option Addr) (n c : Nat) (ss : List ByteArray) (s : ByteArray) (w : World) (hr : StrRow ok w a n ss) (hn : n ≤ 100000) :
    Calls Yba.prog 9 #[.slice a n c, .string s] w fun e w' => e = .returned (.bool (among ss s)) ∧ w' = w := by
  rcases hr.2 with h0 | ⟨b, off, rfl, _, hc⟩
  · subst h0
    have : ss = [] := List.eq_nil_of_length_eq_zero hr.1
    subst this
    exact contains_zero a c s w
  · exact contains_pos b off n c ss s w hr.1 hn hc

set_option maxHeartbeats 400000 in
theorem index_pos (b off n c : Nat) (ss : List ByteArray) (s : ByteArray) (w : World) (hl : ss.length = n) (hn : n ≤ 100000) (hc : ∀ i, i < n → w.cell? ⟨b, off + i, none⟩ = some (.string (ss.getD i ByteArray.empty))) :
    Calls Yba.prog 50 #[.slice (some ⟨b, off, none⟩) n c, .string s] w fun e w' => ∃ r : Int, e = .returned (.int .i64 r) ∧ decide (0 ≤ r) = among ss s ∧ w' = w := by
  have HC := hide hc
  clear hc
  go_enter Yba.func50, Yba.ntmps50
  go_wp2
  go_loop [8] (fun i => ∃ k : Nat, k ≤ n ∧ i = .int .i64 k ∧ among (ss.take k) s = false) (fun i => n - (intOf i).toNat)
  case atStart => exact ⟨0, Nat.zero_le _, rfl, rfl⟩
  case round =>
    obtain ⟨k, hk, rfl, hno⟩ := hrel
    have HNO := hide hno
    clear hno
    by_cases hlt : k < n
    · have q := HC.out k hlt
      have hk1 : (k : Int) < (n : Int) := by omega
      by_cases hh : ss.getD k ByteArray.empty = s
      · have HF := hide (among_hit ss s k (by omega) hh)
        have hb : (s.toList == (ss.getD k ByteArray.empty).toList) = true := by rw [toList_eq]; simpa using hh.symm
        generalize ss.getD k ByteArray.empty = x at q hb
        clear hh
        go_wp2
        go_ret
        exact ⟨_, rfl, by rw [HF.out]; simp, rfl⟩
      · have HS : Hid (among (ss.take (k + 1)) s = false) := by
          refine hide ?_
          rw [among_succ _ _ _ (by omega), HNO.out]; simpa using hh
        have hb : (s.toList == (ss.getD k ByteArray.empty).toList) = false := by rw [toList_eq]; simpa using fun h => hh h.symm
        generalize ss.getD k ByteArray.empty = x at q hb
        clear hh
        go_wp2
        go_round
        case rel => exact ⟨k + 1, by omega, by go_num, HS.out⟩
        case measure => simp [intOf]; omega
    · obtain rfl : k = n := by omega
      have HF : Hid (among ss s = false) := by
        refine hide ?_
        have := HNO.out
        rwa [List.take_of_length_le (by omega)] at this
      go_wp2
      go_ret
      exact ⟨_, rfl, by rw [HF.out]; simp, rfl⟩

set_option maxHeartbeats 400000 in
theorem index_zero (a : Option Addr) (c : Nat) (s : ByteArray) (w : World) :
    Calls Yba.prog 50 #[.slice a 0 c, .string s] w fun e w' => ∃ r : Int, e = .returned (.int .i64 r) ∧ decide (0 ≤ r) = false ∧ w' = w := by
  go_enter Yba.func50, Yba.ntmps50
  go_wp2
  refine wp_loop_rounds 1 ?_
  rw [rounds_succ]
  go_wp2
  go_ret
  exact ⟨_, rfl, by simp, rfl⟩

theorem index_any {ok : Nat → Prop} (a : Option Addr) (n c : Nat) (ss : List ByteArray) (s : ByteArray) (w : World) (hr : StrRow ok w a n ss) (hn : n ≤ 100000) :
    Calls Yba.prog 50 #[.slice a n c, .string s] w fun e w' => ∃ r : Int, e = .returned (.int .i64 r) ∧ decide (0 ≤ r) = among ss s ∧ w' = w := by
  rcases hr.2 with h0 | ⟨b, off, rfl, _, hc⟩
  · subst h0
    have : ss = [] := List.eq_nil_of_length_eq_zero hr.1
    subst this
    exact index_zero a c s w
  · exact index_pos b off n c ss s w hr.1 hn hc

set_option maxHeartbeats 400000 in
theorem scontains_any {ok : Nat → Prop} (a : Option Addr) (n c : Nat) (ss : List ByteArray) (s : ByteArray) (w : World) (hr : StrRow ok w a n ss) (hn : n ≤ 100000) :
    Calls Yba.prog 41 #[.slice a n c, .string s] w fun e w' => e = .returned (.bool (among ss s)) ∧ w' = w := by
  have HI := hide (index_any a n c ss s w hr hn)
  clear hr
  go_enter Yba.func41, Yba.ntmps41
  go_wp2_with fail
  refine HI.out.mono ?_
  rintro e w' ⟨r, rfl, hr, rfl⟩
  have HR := hide hr
  clear hr HI
  go_wp2
  go_ret
  exact ⟨by rw [← HR.out]; rfl, rfl⟩

/-- What the closures of Keep and Drop say of a name. -/
def keepP (wo : Bool) (ss : List ByteArray) (s : ByteArray) : Bool := if wo then !among ss s else among ss s

def inFn (wo : Bool) : Nat := if wo then 42 else 40

set_option maxHeartbeats 400000 in
theorem keep1 {ok : Nat → Prop} (s : ByteArray) (g : Nat) (ss : List ByteArray) (w : World) (hb : Bound ok w g ss) (hn : ss.length ≤ 100000) :
    Calls Yba.prog 40 #[.string s, .pointer (some ⟨g, 0, none⟩)] w fun e w' => e = .returned (.bool (among ss s)) ∧ w' = w := by
  obtain ⟨a, n, c, h1, h2⟩ := hb
  have HI := hide (scontains_any a n c ss s w h2 (by have := h2.1; omega))
  clear h2
  go_enter Yba.func40, Yba.ntmps40
  go_wp2_with fail
  refine HI.out.mono ?_
  rintro e w' ⟨rfl, rfl⟩
  go_wp2
  go_ret
  exact ⟨rfl, rfl⟩

set_option maxHeartbeats 400000 in
theorem drop1 {ok : Nat → Prop} (s : ByteArray) (g : Nat) (ss : List ByteArray) (w : World) (hb : Bound ok w g ss) (hn : ss.length ≤ 100000) :
    Calls Yba.prog 42 #[.string s, .pointer (some ⟨g, 0, none⟩)] w fun e w' => e = .returned (.bool (!among ss s)) ∧ w' = w := by
  obtain ⟨a, n, c, h1, h2⟩ := hb
  have HI := hide (scontains_any a n c ss s w h2 (by have := h2.1; omega))
  clear h2
  go_enter Yba.func42, Yba.ntmps42
  go_wp2_with fail
  refine HI.out.mono ?_
  rintro e w' ⟨rfl, rfl⟩
  go_wp2
  go_ret
  exact ⟨rfl, rfl⟩
end Go.Proofs.Ybulkbsq
