/- zzs0134aguard, newSetSearch. -/
import Derived.Test.YbulkbteModel
namespace Go.Proofs.Ybulkbte
open Go.RowKit Go.WideShapes

/-- What the guard answers. -/
def GuardPost (n la lb lo : Nat) (A Sb : Nat → List Int) (w : World) (e : Ending) (w' : World) : Prop :=
  ∃ b, e = .returned (.bool b) ∧ w' = w ∧ (b = true → n ≤ 256 ∧ la ≤ 256 ∧ lb ≤ 256 ∧ lo ≤ 256 ∧ ∀ i, i < n → (A i).length ≤ 256 ∧ (Sb i).length ≤ 256)

set_option maxHeartbeats 4000000 in
set_option maxRecDepth 100000 in
theorem guard_walk (C n la lb lo : Nat) (A Sb : Nat → List Int) (sv : Value) (ta tb oa : Option Addr) (tc tbc oc : Nat) (w : World) (hin : InSets C w sv n A Sb) :
    Calls Yba.prog 7 #[sv, .slice ta la tc, .slice tb lb tbc, .slice oa lo oc] w (GuardPost n la lb lo A Sb w) := by
  obtain ⟨so, sc, rfl, -⟩ := id hin
  have HIN := hide hin
  clear hin
  by_cases h1 : 256 < n
  · have h1z : (256 : Int) < (n : Int) := by omega
    go_enter Yba.func7, Yba.ntmps7
    go_wp2_with fail
    go_ret
    exact ⟨false, rfl, rfl, by simp⟩
  have h1z : decide ((256 : Int) < (n : Int)) = false := decide_eq_false (by omega)
  by_cases h2 : 256 < la
  · have h2z : (256 : Int) < (la : Int) := by omega
    go_enter Yba.func7, Yba.ntmps7
    go_wp2_with fail
    go_ret
    exact ⟨false, rfl, rfl, by simp⟩
  have h2z : decide ((256 : Int) < (la : Int)) = false := decide_eq_false (by omega)
  by_cases h3 : 256 < lb
  · have h3z : (256 : Int) < (lb : Int) := by omega
    go_enter Yba.func7, Yba.ntmps7
    go_wp2_with fail
    go_ret
    exact ⟨false, rfl, rfl, by simp⟩
  have h3z : decide ((256 : Int) < (lb : Int)) = false := decide_eq_false (by omega)
  by_cases h4 : 256 < lo
  · have h4z : (256 : Int) < (lo : Int) := by omega
    go_enter Yba.func7, Yba.ntmps7
    go_wp2_with fail
    go_ret
    exact ⟨false, rfl, rfl, by simp⟩
  have h4z : decide ((256 : Int) < (lo : Int)) = false := decide_eq_false (by omega)
  go_enter Yba.func7, Yba.ntmps7
  go_wp2_with fail
  go_loopw [9] (fun iv wr => ∃ i : Nat, i ≤ n ∧ iv = .int .i64 i ∧ wr = w ∧ ∀ j, j < i → (A j).length ≤ 256 ∧ (Sb j).length ≤ 256) (fun iv _ => n - (intOf iv).toNat)
  case atStart => exact ⟨0, Nat.zero_le _, rfl, rfl, fun j h => absurd h (Nat.not_lt_zero _)⟩
  case round =>
    obtain ⟨i, hi, rfl, hwr, hall⟩ := hrel
    have hw2 := hwr.symm
    clear hwr
    subst hw2
    have HALL := hide hall
    clear hall
    by_cases hlt : i < n
    · obtain ⟨b, off, hso, hbC, aa, ac, ba, bc, hc0, hc1, _, _⟩ := HIN.out.at hlt
      cases hso
      have hi1 : (i : Int) < (n : Int) := by omega
      have hi0 : (0 : Int) ≤ (i : Int) := by omega
      by_cases h5 : 256 < (A i).length
      · have h5z : (256 : Int) < ((A i).length : Int) := by omega
        go_wp2_with fail
        go_ret
        exact ⟨false, rfl, rfl, by simp⟩
      have h5z : decide ((256 : Int) < ((A i).length : Int)) = false := decide_eq_false (by omega)
      by_cases h6 : 256 < (Sb i).length
      · have h6z : (256 : Int) < ((Sb i).length : Int) := by omega
        go_wp2_with fail
        go_ret
        exact ⟨false, rfl, rfl, by simp⟩
      have h6z : decide ((256 : Int) < ((Sb i).length : Int)) = false := decide_eq_false (by omega)
      go_wp2_with fail
      go_roundw
      case rel =>
        refine ⟨i + 1, by omega, by go_num, trivial, fun j hj => ?_⟩
        by_cases he : j = i
        · subst he; omega
        · exact HALL.out j (by omega)
      case measure => simp [intOf]; omega
    · obtain rfl : i = n := by omega
      have hii : ¬ ((i : Int) < (i : Int)) := by omega
      go_wp2_with fail
      go_ret
      exact ⟨true, rfl, rfl, fun _ => ⟨by omega, by omega, by omega, by omega, HALL.out⟩⟩

/-- What newSetSearch gives. -/
def NewPost (X n : Nat) (w : World) (e : Ending) (w' : World) : Prop :=
  ∃ SS, e = .returned (.pointer (some ⟨SS, 0, none⟩)) ∧ w.heap.size < SS ∧ Below w.heap.size w w' ∧
    Blk w' SS 40 [.pointer (some ⟨X, 0, none⟩), .bool false, .int .u32 0, .slice (some ⟨w.heap.size, 0, none⟩) n n, .slice none 0 0] ∧ Blk w' w.heap.size 25 ((List.replicate n (0 : Int)).map (Value.int .u32))

set_option maxHeartbeats 4000000 in
set_option maxRecDepth 100000 in
theorem new_walk (X n c : Nat) (ao : Option Addr) (w : World) (hn : n ≤ 256) (hX : w.cell? ⟨X, 0, none⟩ = some (.slice ao n c)) :
    Calls Yba.prog 9 #[.pointer (some ⟨X, 0, none⟩)] w (NewPost X n w) := by
  obtain ⟨i0, hi, hz0, hz1, hz2⟩ := info_parts info25
  go_enter Yba.func9, Yba.ntmps9
  go_wp2_with (at_make; refine wpList_make_full _ rfl (.tmp 8) (.tmp 8) 23 rfl w.heap.size 25 i0 (.int .u32 0) 1 Yba.underlying23 hi hz0 hz1 .i64 .i64 _ _ n rfl rfl (by omega) (by omega) (by rw [hz2]; omega) (by unfold maxLen; omega) (Nat.le_refl _) ?_; intro w1 hown hgrow; have HB1 := hide ((Below.refl w.heap.size w).grown hgrow (Nat.le_refl _) (fun k hk => by cases hk)); have HW1 := hide (Blk.ofOwns hown); clear hown hgrow)
  go_ret
  refine ⟨w1.heap.size, rfl, HW1.out.lt, HB1.out.alloc HB1.out.size _, Blk.new w1 40 _, ?_⟩
  have := HW1.out.alloc (.cells #[.pointer (some ⟨X, 0, none⟩), .bool false, .int .u32 0, .slice (some ⟨w.heap.size, 0, none⟩) n n, .slice none 0 0] 40)
  rw [made_rep _ rfl] at this
  simpa using this
end Go.Proofs.Ybulkbte
