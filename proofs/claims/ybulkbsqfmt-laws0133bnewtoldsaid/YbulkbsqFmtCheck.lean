/- checkNames on names that stand in order. -/
import Derived.Test.YbulkbsqFmtErr
namespace Go.Proofs.YbulkbsqFmt
open Go.RowKit Go.WideShapes Go.Stop

theorem less_of_cb : ∀ a b : List UInt8, Lib.compareBytes a b < 0 → Op.bytesLess a b = true
  | [], [], h => by simp [Lib.compareBytes] at h
  | [], _ :: _, _ => rfl
  | _ :: _, [], h => by simp [Lib.compareBytes] at h
  | x :: a, y :: b, h => by
    unfold Lib.compareBytes at h
    unfold Op.bytesLess
    simp only [Bool.or_eq_true, decide_eq_true_eq, Bool.and_eq_true, beq_iff_eq]
    by_cases h1 : x < y
    · exact .inl h1
    · rw [if_neg h1] at h
      by_cases h2 : y < x
      · rw [if_pos h2] at h; omega
      · rw [if_neg h2] at h
        refine .inr ⟨?_, less_of_cb a b h⟩
        apply UInt8.toNat_inj.1
        simp only [UInt8.lt_iff_toNat_lt] at h1 h2
        omega

theorem new_cell (w : World) (v : Value) (t : TypeId) : (w.alloc (.cells #[v] t)).cell? ⟨w.heap.size, 0, none⟩ = some v := by simp

/-- No two neighbours bear one name. -/
def Apart (ls : List Lb) (m : Nat) : Prop := ∀ j, j + 1 < m → (ls.getD j noL).1 ≠ (ls.getD (j + 1) noL).1

/-- What checkNames says: nil, and the names are apart; or an error. -/
def Checked (w : World) (ls : List Lb) (n : Nat) (e : Ending) (w' : World) : Prop :=
  ((e = .returned .nilIface ∧ Apart ls n) ∨ ∃ T x, e = .returned (.iface T x)) ∧ Below w.heap.size w w'

set_option maxHeartbeats 2000000 in
set_option maxRecDepth 100000 in
theorem check_pos (F : Interp) (g n c : Nat) (ls : List Lb) (w : World) (hF : F.answers w.tape) (hl : ls.length = n) (hn : n ≤ 1024) (hpos : 0 < n) (hg : g < w.heap.size) (ho : InOrder ls)
    (hc : ∀ i, i < n → w.cell? ⟨g, i * 2, none⟩ = some (.string (ls.getD i noL).1)) :
    Calls Ybaf.prog 9 #[.slice (some ⟨g, 0, none⟩) n c] w fun e w' => Checked w ls n e w' := by
  have HC := hide hc
  have HF := hide hF
  have HO := hide ho
  clear hc hF ho
  go_enter Ybaf.func9, Ybaf.ntmps9
  go_wp2
  go_loopw [3] (fun i wr => ∃ j : Nat, j + 1 ≤ n ∧ i = .int .i64 ((j : Int) + 1) ∧ Apart ls (j + 1) ∧ Below w.heap.size w wr) (fun i _ => n + 1 - (intOf i).toNat)
  case atStart => exact ⟨0, by omega, rfl, fun j hj => absurd hj (by omega), Below.refl _ _⟩
  case round =>
    obtain ⟨j, hj, rfl, hap, hbr⟩ := hrel
    have HAP := hide hap
    have HB := hide hbr
    by_cases hlt : j + 1 < n
    · have q0 := HC.out j (by omega)
      have q1 := HC.out (j + 1) hlt
      have r0 := hbr.cell (p := ⟨g, j * 2, none⟩) hg
      rw [q0] at r0
      have r1 := hbr.cell (p := ⟨g, (j + 1) * 2, none⟩) hg
      rw [q1] at r1
      have HLE := hide (HO.out.le (show j ≤ j + 1 by omega) (by omega))
      have hd1 : (j : Int) + 1 < (n : Int) := by omega
      have hd2 : (j : Int) < (n : Int) := by omega
      have htape : F.answers wr.tape := by rw [hbr.tape]; exact HF.out
      have hws := hbr.size
      by_cases hne : (ls.getD j noL).1 = (ls.getD (j + 1) noL).1
      · have hb : ((ls.getD j noL).1.toList == (ls.getD (j + 1) noL).1.toList) = true := by rw [toList_eq]; simpa using hne
        generalize (ls.getD j noL).1 = x at r0 hb
        generalize (ls.getD (j + 1) noL).1 = y at r1 hb
        have HT := hide htape
        clear q0 q1 hap hbr hne htape
        go_wp2
        go_quiet (fail)
        go_wp2_with fail
        have hce : ((wr.drewN nq).alloc (.cells #[.iface 9 (.string y)] 20)).cell? ⟨wr.heap.size, 0, none⟩ = some (.iface 9 (.string y)) :=
          new_cell (wr.drewN nq) _ _
        refine (errorf_twice F wr.heap.size y ((wr.drewN nq).alloc (.cells #[.iface 9 (.string y)] 20)) HT.out hce).mono ?_
        rintro e w' ⟨⟨T, v, rfl⟩, hb2⟩
        have HB2 := hide (((below_drewN HB.out nq).alloc hws _).trans (hb2.mono (by simp; omega)))
        clear hb2
        go_wp2
        go_ret
        exact ⟨.inr ⟨T, v, rfl⟩, HB2.out⟩
      · have hb : ((ls.getD j noL).1.toList == (ls.getD (j + 1) noL).1.toList) = false := by rw [toList_eq]; simpa using hne
        have hlt2 : Op.bytesLess (ls.getD j noL).1.toList (ls.getD (j + 1) noL).1.toList = true := by
          rw [ByteArray.toList_eq, ByteArray.toList_eq]
          refine less_of_cb _ _ ?_
          have h1 := HLE.out
          rcases Int.lt_or_eq_of_le h1 with h | h
          · exact h
          · exact absurd (bytes_inj (cb_eq _ _ h)) hne
        have HAP2 : Hid (Apart ls (j + 1 + 1)) := hide fun i hi => by
          rcases Nat.lt_or_eq_of_le (Nat.le_of_lt_succ hi) with h | h
          · exact HAP.out i h
          · obtain rfl : i = j := by omega
            exact hne
        generalize (ls.getD j noL).1 = x at r0 hb hlt2
        generalize (ls.getD (j + 1) noL).1 = y at r1 hb hlt2
        clear q0 q1 hap hbr hne htape
        go_wp2
        go_quiet (fail)
        go_wp2
        go_quiet (fail)
        go_wp2
        go_roundw
        case rel => exact ⟨j + 1, by omega, by go_num, HAP2.out, below_drewN HB.out _⟩
        case measure => simp [intOf]; omega
    · have hd1 : ¬ (j : Int) + 1 < (n : Int) := by omega
      obtain rfl : n = j + 1 := by omega
      clear hbr hap
      go_wp2
      go_ret
      exact ⟨.inl ⟨rfl, HAP.out⟩, HB.out⟩

set_option maxHeartbeats 1000000 in
theorem check_zero (a : Option Addr) (c : Nat) (w : World) :
    Calls Ybaf.prog 9 #[.slice a 0 c] w fun e w' => Checked w [] 0 e w' := by
  go_enter Ybaf.func9, Ybaf.ntmps9
  go_wp2
  refine wp_loop_rounds 1 ?_
  rw [rounds_succ]
  go_wp2
  go_ret
  exact ⟨.inl ⟨rfl, fun j hj => absurd hj (by omega)⟩, Below.refl _ _⟩
end Go.Proofs.YbulkbsqFmt
