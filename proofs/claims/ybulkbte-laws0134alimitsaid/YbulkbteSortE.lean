/- slices.Sort at uint32, fifth part: partitionEqual. -/
import Derived.Test.YbulkbteSortD
namespace Go.Proofs.Ybulkbte
open Go.RowKit Go.WideShapes Go.Sort

set_option maxHeartbeats 8000000 in
set_option maxRecDepth 1000000 in
theorem pareq_u32 (blk off cap n a b pivot : Nat) (d : Array Int) (w : World) (hn : d.size = n) (hH : Holds eU w blk off d) (hblk : blk < w.heap.size) (hap : a ≤ pivot) (hpb : pivot < b) (hb : b ≤ n) (hsz : n < 4611686018427387904) :
    Calls Yba.prog 29 #[.slice (some ⟨blk, off, none⟩) n cap, .int .i64 a, .int .i64 b, .int .i64 pivot] w fun e w' => e = .returned (.int .i64 (partitionEqual ltInt d a b pivot).1) ∧ Now w blk off (partitionEqual ltInt d a b pivot).2 w' := by
  have hN0 := Now.refl hH hblk
  obtain ⟨G0, hG0, hcw0, hfw0⟩ := hN0.cells hn
  have HG0 := hide hG0
  have HN0 := hide hN0
  clear hH hN0 hG0
  go_enter Yba.func29, Yba.ntmps29
  by_cases hpa : a = pivot
  · subst hpa
    go_wp2_with fail
    go_region
    all_goals go_wp2
    go_loopw [9, 10] (fun vi vj wr => ∃ (i j : Nat) (dk : Array Int), vi = .int .i64 i ∧ vj = .int .i64 j ∧ a < i ∧ a ≤ j ∧ i ≤ n ∧ j < n ∧ dk.size = n ∧ Now w blk off dk wr ∧ partEqLoop ltInt a i j dk = partitionEqual ltInt d a b a) (fun vi vj _ => natOf vj + 1 - natOf vi)
    case atStart => exact ⟨a + 1, b - 1, swp d a a, by go_num, by congr 1; omega, by omega, by omega, by omega, by omega, by rw [size_swp]; exact hn, (HN0.out.swap (i := a) (j := a) (by omega) (by omega) (HG0.out _) (HG0.out _)).drew, rfl⟩
    case round =>
      obtain ⟨i, j, dk, rfl, rfl, hai, haj, hin, hjn, hsk, hN, hO⟩ := hrel
      have HO := hide hO
      have HN := hide hN
      clear hO hN
      go_wp2
      go_loopw [9] (fun vi wr1 => ∃ (i1 : Nat), vi = .int .i64 i1 ∧ i ≤ i1 ∧ i1 ≤ n ∧ Now w blk off dk wr1 ∧ scanUp (fun x => !ltInt dk[a]! x) dk j i1 = scanUp (fun x => !ltInt dk[a]! x) dk j i) (fun vi _ => n + 1 - natOf vi)
      case atStart => exact ⟨i, rfl, Nat.le_refl _, hin, HN.out, rfl⟩
      case round =>
        obtain ⟨i1, rfl, hi1, hi1n, hN1, hU⟩ := hrel
        obtain ⟨G, hG, hcw, hfw⟩ := hN1.cells hsk
        have HG := hide hG
        have HN1 := hide hN1
        have HU := hide hU
        clear hG hN1 hU HN
        have OUT : Hid ((¬ i1 ≤ j ∨ (!ltInt dk[a]! dk[i1]!) = false) → i1 = scanUp (fun x => !ltInt dk[a]! x) dk j i) := hide (fun h => by rw [← HU.out, scanUp_end _ _ _ _ h])
        go_wp2_with fail
        by_cases hij : i1 ≤ j
        · have hijz : (i1 : Int) ≤ (j : Int) := by omega
          go_quiet (first | (go_at_call 28; refine Calls.quiet_of_same (less_u32 _ _ _)))
          go_wp2_with fail
          · have hl : (!ltInt (G a) (G i1)) = true := by assumption
            go_wp2
            go_roundw
            case rel => exact ⟨i1 + 1, by go_num, by omega, by omega, HN1.out.drewN nq, by rw [← HU.out, scanUp_go _ _ _ _ hij (by rw [← HG.out, ← HG.out]; exact hl)]⟩
            case measure => simp [natOf]; omega
          · have hl : (!ltInt (G a) (G i1)) = false := by assumption
            have HI2 := hide (OUT.out (Or.inr (by rw [← HG.out, ← HG.out]; exact hl)))
            have HN2 := hide (HN1.out.drewN nq)
            clear hcw hfw HG hl HN1 HU OUT
            generalize wr.drewN nq = wq at HN2 ⊢
            go_wp2_with fail
            go_loopw [10] (fun vj wr2 => ∃ (j1 : Nat), vj = .int .i64 j1 ∧ a ≤ j1 ∧ j1 ≤ j ∧ Now w blk off dk wr2 ∧ scanDown (fun x => ltInt dk[a]! x) dk i1 j1 = scanDown (fun x => ltInt dk[a]! x) dk i1 j) (fun vj _ => natOf vj)
            case atStart => exact ⟨j, rfl, haj, Nat.le_refl _, HN2.out, rfl⟩
            case round =>
              obtain ⟨j1, rfl, haj1, hj1, hN3, hD⟩ := hrel
              obtain ⟨G2, hG2, hcw2, hfw2⟩ := hN3.cells hsk
              have HG2 := hide hG2
              have HN3 := hide hN3
              have HD := hide hD
              clear hG2 hN3 hD HN2
              have OUT2 : Hid ((¬ i1 ≤ j1 ∨ ltInt dk[a]! dk[j1]! = false) → j1 = scanDown (fun x => ltInt dk[a]! x) dk i1 j) := hide (fun h => by rw [← HD.out, scanDown_end _ _ _ _ h])
              go_wp2_with fail
              by_cases hij2 : i1 ≤ j1
              · have hij2z : (i1 : Int) ≤ (j1 : Int) := by omega
                go_quiet (first | (go_at_call 28; refine Calls.quiet_of_same (less_u32 _ _ _)))
                go_wp2_with fail
                · have hl2 : ltInt (G2 a) (G2 j1) = true := by assumption
                  go_wp2
                  go_roundw
                  case rel => exact ⟨j1 - 1, by congr 1; omega, by omega, by omega, HN3.out.drewN nq, by rw [← HD.out, scanDown_go _ _ _ _ hij2 (by omega) (by rw [← HG2.out, ← HG2.out]; exact hl2)]⟩
                  case measure => simp [natOf]; omega
                · have hl2 : ltInt (G2 a) (G2 j1) = false := by assumption
                  have HJ2 := hide (OUT2.out (Or.inr (by rw [← HG2.out, ← HG2.out]; exact hl2)))
                  have hlt := scans_lt ltInt a i j dk (by omega) HI2.out HJ2.out hij2
                  have HN4 := hide (HN3.out.drewN nq)
                  have hcw4 : ∀ t, t < n → (wr.drewN nq).cell? ⟨blk, off + t, none⟩ = some (.int .u32 (G2 t)) := hcw2
                  have hfw4 : ∀ t, t < n → (wr.drewN nq).frozen? ⟨blk, off + t, none⟩ = false := hfw2
                  clear hcw2 hfw2 HN3 HD OUT2 hl2
                  generalize wr.drewN nq = wq2 at HN4 hcw4 hfw4 ⊢
                  have hgtz : ¬ (j1 : Int) < (i1 : Int) := by omega
                  go_wp2_with fail
                  go_region
                  all_goals go_wp2
                  go_roundw
                  case rel =>
                    refine ⟨i1 + 1, j1 - 1, swp dk i1 j1, by go_num, by congr 1; omega, by omega, by omega, by omega, by omega, by rw [size_swp]; exact hsk, ?_, ?_⟩
                    · exact (HN4.out.swap (by omega) (by omega) (HG2.out _) (HG2.out _)).drew
                    · rw [← HO.out, partEq_go ltInt a i j dk HI2.out HJ2.out (by omega)]
                  case measure => simp [natOf]; omega
              · have hij2z : decide ((i1 : Int) ≤ (j1 : Int)) = false := decide_eq_false (by omega)
                go_quiet (first | (go_at_call 28; refine Calls.quiet_of_same (less_u32 _ _ _)))
                go_wp2_with fail
                have HJ2 := hide (OUT2.out (Or.inl hij2))
                have HN4 := hide (HN3.out.drewN nq)
                clear hcw2 hfw2 HN3 HD OUT2 HG2
                generalize wr.drewN nq = wq2 at HN4 ⊢
                have hgtz : (j1 : Int) < (i1 : Int) := by omega
                go_wp2
                go_ret
                rw [← HO.out, partEq_break ltInt a i j dk HI2.out HJ2.out (by omega)]
                exact ⟨rfl, HN4.out⟩
        · have hijz : decide ((i1 : Int) ≤ (j : Int)) = false := decide_eq_false (by omega)
          go_quiet (first | (go_at_call 28; refine Calls.quiet_of_same (less_u32 _ _ _)))
          go_wp2_with fail
          have HI2 := hide (OUT.out (Or.inl hij))
          have HN2 := hide (HN1.out.drewN nq)
          clear hcw hfw HG HN1 HU OUT
          generalize wr.drewN nq = wq at HN2 ⊢
          go_wp2_with fail
          go_loopw [10] (fun vj wr2 => ∃ (j1 : Nat), vj = .int .i64 j1 ∧ a ≤ j1 ∧ j1 ≤ j ∧ Now w blk off dk wr2 ∧ scanDown (fun x => ltInt dk[a]! x) dk i1 j1 = scanDown (fun x => ltInt dk[a]! x) dk i1 j) (fun vj _ => natOf vj)
          case atStart => exact ⟨j, rfl, haj, Nat.le_refl _, HN2.out, rfl⟩
          case round =>
            obtain ⟨j1, rfl, haj1, hj1, hN3, hD⟩ := hrel
            obtain ⟨G2, hG2, hcw2, hfw2⟩ := hN3.cells hsk
            have HG2 := hide hG2
            have HN3 := hide hN3
            have HD := hide hD
            clear hG2 hN3 hD HN2
            have OUT2 : Hid ((¬ i1 ≤ j1 ∨ ltInt dk[a]! dk[j1]! = false) → j1 = scanDown (fun x => ltInt dk[a]! x) dk i1 j) := hide (fun h => by rw [← HD.out, scanDown_end _ _ _ _ h])
            go_wp2_with fail
            by_cases hij2 : i1 ≤ j1
            · exact absurd hij2 (by omega)
            · have hij2z : decide ((i1 : Int) ≤ (j1 : Int)) = false := decide_eq_false (by omega)
              go_quiet (first | (go_at_call 28; refine Calls.quiet_of_same (less_u32 _ _ _)))
              go_wp2_with fail
              have HJ2 := hide (OUT2.out (Or.inl hij2))
              have HN4 := hide (HN3.out.drewN nq)
              clear hcw2 hfw2 HN3 HD OUT2 HG2
              generalize wr.drewN nq = wq2 at HN4 ⊢
              have hgtz : (j1 : Int) < (i1 : Int) := by omega
              go_wp2
              go_ret
              rw [← HO.out, partEq_break ltInt a i j dk HI2.out HJ2.out (by omega)]
              exact ⟨rfl, HN4.out⟩
  · have hpz : ¬ (a : Int) = (pivot : Int) := by omega
    go_wp2_with fail
    go_region
    all_goals go_wp2
    go_loopw [9, 10] (fun vi vj wr => ∃ (i j : Nat) (dk : Array Int), vi = .int .i64 i ∧ vj = .int .i64 j ∧ a < i ∧ a ≤ j ∧ i ≤ n ∧ j < n ∧ dk.size = n ∧ Now w blk off dk wr ∧ partEqLoop ltInt a i j dk = partitionEqual ltInt d a b pivot) (fun vi vj _ => natOf vj + 1 - natOf vi)
    case atStart => exact ⟨a + 1, b - 1, swp d a pivot, by go_num, by congr 1; omega, by omega, by omega, by omega, by omega, by rw [size_swp]; exact hn, (HN0.out.swap (i := a) (j := pivot) (by omega) (by omega) (HG0.out _) (HG0.out _)).drew, rfl⟩
    case round =>
      obtain ⟨i, j, dk, rfl, rfl, hai, haj, hin, hjn, hsk, hN, hO⟩ := hrel
      have HO := hide hO
      have HN := hide hN
      clear hO hN
      go_wp2
      go_loopw [9] (fun vi wr1 => ∃ (i1 : Nat), vi = .int .i64 i1 ∧ i ≤ i1 ∧ i1 ≤ n ∧ Now w blk off dk wr1 ∧ scanUp (fun x => !ltInt dk[a]! x) dk j i1 = scanUp (fun x => !ltInt dk[a]! x) dk j i) (fun vi _ => n + 1 - natOf vi)
      case atStart => exact ⟨i, rfl, Nat.le_refl _, hin, HN.out, rfl⟩
      case round =>
        obtain ⟨i1, rfl, hi1, hi1n, hN1, hU⟩ := hrel
        obtain ⟨G, hG, hcw, hfw⟩ := hN1.cells hsk
        have HG := hide hG
        have HN1 := hide hN1
        have HU := hide hU
        clear hG hN1 hU HN
        have OUT : Hid ((¬ i1 ≤ j ∨ (!ltInt dk[a]! dk[i1]!) = false) → i1 = scanUp (fun x => !ltInt dk[a]! x) dk j i) := hide (fun h => by rw [← HU.out, scanUp_end _ _ _ _ h])
        go_wp2_with fail
        by_cases hij : i1 ≤ j
        · have hijz : (i1 : Int) ≤ (j : Int) := by omega
          go_quiet (first | (go_at_call 28; refine Calls.quiet_of_same (less_u32 _ _ _)))
          go_wp2_with fail
          · have hl : (!ltInt (G a) (G i1)) = true := by assumption
            go_wp2
            go_roundw
            case rel => exact ⟨i1 + 1, by go_num, by omega, by omega, HN1.out.drewN nq, by rw [← HU.out, scanUp_go _ _ _ _ hij (by rw [← HG.out, ← HG.out]; exact hl)]⟩
            case measure => simp [natOf]; omega
          · have hl : (!ltInt (G a) (G i1)) = false := by assumption
            have HI2 := hide (OUT.out (Or.inr (by rw [← HG.out, ← HG.out]; exact hl)))
            have HN2 := hide (HN1.out.drewN nq)
            clear hcw hfw HG hl HN1 HU OUT
            generalize wr.drewN nq = wq at HN2 ⊢
            go_wp2_with fail
            go_loopw [10] (fun vj wr2 => ∃ (j1 : Nat), vj = .int .i64 j1 ∧ a ≤ j1 ∧ j1 ≤ j ∧ Now w blk off dk wr2 ∧ scanDown (fun x => ltInt dk[a]! x) dk i1 j1 = scanDown (fun x => ltInt dk[a]! x) dk i1 j) (fun vj _ => natOf vj)
            case atStart => exact ⟨j, rfl, haj, Nat.le_refl _, HN2.out, rfl⟩
            case round =>
              obtain ⟨j1, rfl, haj1, hj1, hN3, hD⟩ := hrel
              obtain ⟨G2, hG2, hcw2, hfw2⟩ := hN3.cells hsk
              have HG2 := hide hG2
              have HN3 := hide hN3
              have HD := hide hD
              clear hG2 hN3 hD HN2
              have OUT2 : Hid ((¬ i1 ≤ j1 ∨ ltInt dk[a]! dk[j1]! = false) → j1 = scanDown (fun x => ltInt dk[a]! x) dk i1 j) := hide (fun h => by rw [← HD.out, scanDown_end _ _ _ _ h])
              go_wp2_with fail
              by_cases hij2 : i1 ≤ j1
              · have hij2z : (i1 : Int) ≤ (j1 : Int) := by omega
                go_quiet (first | (go_at_call 28; refine Calls.quiet_of_same (less_u32 _ _ _)))
                go_wp2_with fail
                · have hl2 : ltInt (G2 a) (G2 j1) = true := by assumption
                  go_wp2
                  go_roundw
                  case rel => exact ⟨j1 - 1, by congr 1; omega, by omega, by omega, HN3.out.drewN nq, by rw [← HD.out, scanDown_go _ _ _ _ hij2 (by omega) (by rw [← HG2.out, ← HG2.out]; exact hl2)]⟩
                  case measure => simp [natOf]; omega
                · have hl2 : ltInt (G2 a) (G2 j1) = false := by assumption
                  have HJ2 := hide (OUT2.out (Or.inr (by rw [← HG2.out, ← HG2.out]; exact hl2)))
                  have hlt := scans_lt ltInt a i j dk (by omega) HI2.out HJ2.out hij2
                  have HN4 := hide (HN3.out.drewN nq)
                  have hcw4 : ∀ t, t < n → (wr.drewN nq).cell? ⟨blk, off + t, none⟩ = some (.int .u32 (G2 t)) := hcw2
                  have hfw4 : ∀ t, t < n → (wr.drewN nq).frozen? ⟨blk, off + t, none⟩ = false := hfw2
                  clear hcw2 hfw2 HN3 HD OUT2 hl2
                  generalize wr.drewN nq = wq2 at HN4 hcw4 hfw4 ⊢
                  have hgtz : ¬ (j1 : Int) < (i1 : Int) := by omega
                  go_wp2_with fail
                  go_region
                  all_goals go_wp2
                  go_roundw
                  case rel =>
                    refine ⟨i1 + 1, j1 - 1, swp dk i1 j1, by go_num, by congr 1; omega, by omega, by omega, by omega, by omega, by rw [size_swp]; exact hsk, ?_, ?_⟩
                    · exact (HN4.out.swap (by omega) (by omega) (HG2.out _) (HG2.out _)).drew
                    · rw [← HO.out, partEq_go ltInt a i j dk HI2.out HJ2.out (by omega)]
                  case measure => simp [natOf]; omega
              · have hij2z : decide ((i1 : Int) ≤ (j1 : Int)) = false := decide_eq_false (by omega)
                go_quiet (first | (go_at_call 28; refine Calls.quiet_of_same (less_u32 _ _ _)))
                go_wp2_with fail
                have HJ2 := hide (OUT2.out (Or.inl hij2))
                have HN4 := hide (HN3.out.drewN nq)
                clear hcw2 hfw2 HN3 HD OUT2 HG2
                generalize wr.drewN nq = wq2 at HN4 ⊢
                have hgtz : (j1 : Int) < (i1 : Int) := by omega
                go_wp2
                go_ret
                rw [← HO.out, partEq_break ltInt a i j dk HI2.out HJ2.out (by omega)]
                exact ⟨rfl, HN4.out⟩
        · have hijz : decide ((i1 : Int) ≤ (j : Int)) = false := decide_eq_false (by omega)
          go_quiet (first | (go_at_call 28; refine Calls.quiet_of_same (less_u32 _ _ _)))
          go_wp2_with fail
          have HI2 := hide (OUT.out (Or.inl hij))
          have HN2 := hide (HN1.out.drewN nq)
          clear hcw hfw HG HN1 HU OUT
          generalize wr.drewN nq = wq at HN2 ⊢
          go_wp2_with fail
          go_loopw [10] (fun vj wr2 => ∃ (j1 : Nat), vj = .int .i64 j1 ∧ a ≤ j1 ∧ j1 ≤ j ∧ Now w blk off dk wr2 ∧ scanDown (fun x => ltInt dk[a]! x) dk i1 j1 = scanDown (fun x => ltInt dk[a]! x) dk i1 j) (fun vj _ => natOf vj)
          case atStart => exact ⟨j, rfl, haj, Nat.le_refl _, HN2.out, rfl⟩
          case round =>
            obtain ⟨j1, rfl, haj1, hj1, hN3, hD⟩ := hrel
            obtain ⟨G2, hG2, hcw2, hfw2⟩ := hN3.cells hsk
            have HG2 := hide hG2
            have HN3 := hide hN3
            have HD := hide hD
            clear hG2 hN3 hD HN2
            have OUT2 : Hid ((¬ i1 ≤ j1 ∨ ltInt dk[a]! dk[j1]! = false) → j1 = scanDown (fun x => ltInt dk[a]! x) dk i1 j) := hide (fun h => by rw [← HD.out, scanDown_end _ _ _ _ h])
            go_wp2_with fail
            by_cases hij2 : i1 ≤ j1
            · exact absurd hij2 (by omega)
            · have hij2z : decide ((i1 : Int) ≤ (j1 : Int)) = false := decide_eq_false (by omega)
              go_quiet (first | (go_at_call 28; refine Calls.quiet_of_same (less_u32 _ _ _)))
              go_wp2_with fail
              have HJ2 := hide (OUT2.out (Or.inl hij2))
              have HN4 := hide (HN3.out.drewN nq)
              clear hcw2 hfw2 HN3 HD OUT2 HG2
              generalize wr.drewN nq = wq2 at HN4 ⊢
              have hgtz : (j1 : Int) < (i1 : Int) := by omega
              go_wp2
              go_ret
              rw [← HO.out, partEq_break ltInt a i j dk HI2.out HJ2.out (by omega)]
              exact ⟨rfl, HN4.out⟩
end Go.Proofs.Ybulkbte
