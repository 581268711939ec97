/- slices.Sort at uint32, sixth part: partition. -/
import Derived.Test.YbulkbteSortE
namespace Go.Proofs.Ybulkbte
open Go.RowKit Go.WideShapes Go.Sort

set_option maxHeartbeats 20000000 in
set_option maxRecDepth 1000000 in
theorem part_far (blk off cap n a J pivot : Nat) (d : Array Int) (w : World) (hn : d.size = n) (hH : Holds eU w blk off d) (hblk : blk < w.heap.size) (hap : a < pivot) (hpb : pivot ≤ J) (hb : J < n) (hsz : n < 4611686018427387904) :
    Calls Yba.prog 30 #[.slice (some ⟨blk, off, none⟩) n cap, .int .i64 a, .int .i64 ((J : Int) + 1), .int .i64 pivot] w fun e w' => e = .returned (.tuple #[.int .i64 (partition ltInt d a (J + 1) pivot).1, .bool (partition ltInt d a (J + 1) pivot).2.1]) ∧ Now w blk off (partition ltInt d a (J + 1) pivot).2.2 w' := by
  have hN0 := Now.refl hH hblk
  obtain ⟨G0, hG0, hcw0, hfw0⟩ := hN0.cells hn
  have HG0 := hide hG0
  have HN0 := hide hN0
  clear hH hN0 hG0
  have hpz : ¬ (a : Int) = (pivot : Int) := by omega
  go_enter Yba.func30, Yba.ntmps30
  go_wp2_with fail
  go_region
  all_goals go_wp2
  have HN := hide ((HN0.out.swap (i := a) (j := pivot) (by omega) (by omega) (HG0.out _) (HG0.out _)).drew)
  obtain ⟨dk, hdk⟩ : ∃ dk, dk = swp d a pivot := ⟨_, rfl⟩
  rw [← hdk] at HN
  have hsk : dk.size = n := by rw [hdk, size_swp]; exact hn
  have HDK := hide hdk
  clear hdk HN0 HG0 hcw0 hfw0
  go_loopw [10] (fun vi wr1 => ∃ (i1 : Nat), vi = .int .i64 i1 ∧ (a + 1) ≤ i1 ∧ i1 ≤ n ∧ Now w blk off dk wr1 ∧ scanUp (fun x => ltInt x dk[a]!) dk J i1 = scanUp (fun x => ltInt x dk[a]!) dk J (a + 1)) (fun vi _ => n + 1 - natOf vi)
  case atStart => exact ⟨(a + 1), by first | rfl | go_num, Nat.le_refl _, by omega, HN.out, rfl⟩
  case round =>
    obtain ⟨i1, rfl, hi1, hi1n, hN1, hU⟩ := hrel
    obtain ⟨G, hG, hcw, hfw⟩ := hN1.cells hsk
    have HG := hide hG
    have HN1 := hide hN1
    have HU := hide hU
    clear hG hN1 hU HN
    have OUT : Hid ((¬ i1 ≤ J ∨ ltInt dk[i1]! dk[a]! = false) → i1 = scanUp (fun x => ltInt x dk[a]!) dk J (a + 1)) := hide (fun h => by rw [← HU.out, scanUp_end _ _ _ _ h])
    go_wp2_with fail
    by_cases hij : i1 ≤ J
    · have hijz : (i1 : Int) ≤ (J : Int) := by omega
      go_quiet (first | (go_at_call 28; refine Calls.quiet_of_same (less_u32 _ _ _)))
      go_wp2_with fail
      · have hl : ltInt (G i1) (G a) = true := by assumption
        go_wp2
        go_roundw
        case rel => exact ⟨i1 + 1, by go_num, by omega, by omega, HN1.out.drewN nq, by rw [← HU.out, scanUp_go _ _ _ _ hij (by rw [← HG.out, ← HG.out]; exact hl)]⟩
        case measure => simp [natOf]; omega
      · have hl : ltInt (G i1) (G a) = false := by assumption
        have HI2 := hide (OUT.out (Or.inr (by rw [← HG.out, ← HG.out]; exact hl)))
        have HN2 := hide (HN1.out.drewN nq)
        clear hcw hfw HG hl HN1 HU OUT
        generalize wr.drewN nq = wq at HN2 ⊢
        go_wp2_with fail
        go_loopw [11] (fun vj wr2 => ∃ (j1 : Nat), vj = .int .i64 j1 ∧ a ≤ j1 ∧ j1 ≤ J ∧ Now w blk off dk wr2 ∧ scanDown (fun x => !ltInt x dk[a]!) dk i1 j1 = scanDown (fun x => !ltInt x dk[a]!) dk i1 J) (fun vj _ => natOf vj)
        case atStart => exact ⟨J, rfl, by omega, Nat.le_refl _, HN2.out, rfl⟩
        case round =>
          obtain ⟨j1, rfl, haj1, hj1, hN3, hD⟩ := hrel
          obtain ⟨G2, hG2, hcw2, hfw2⟩ := hN3.cells hsk
          have HG2 := hide hG2
          have HN3 := hide hN3
          have HD := hide hD
          clear hG2 hN3 hD HN2
          have OUT2 : Hid ((¬ i1 ≤ j1 ∨ (!ltInt dk[j1]! dk[a]!) = false) → j1 = scanDown (fun x => !ltInt x dk[a]!) dk i1 J) := hide (fun h => by rw [← HD.out, scanDown_end _ _ _ _ h])
          go_wp2_with fail
          by_cases hij2 : i1 ≤ j1
          · have hij2z : (i1 : Int) ≤ (j1 : Int) := by omega
            go_quiet (first | (go_at_call 28; refine Calls.quiet_of_same (less_u32 _ _ _)))
            go_wp2_with fail
            · have hl2 : (!ltInt (G2 j1) (G2 a)) = true := by assumption
              go_wp2
              go_roundw
              case rel => exact ⟨j1 - 1, by congr 1; omega, by omega, by omega, HN3.out.drewN nq, by rw [← HD.out, scanDown_go _ _ _ _ hij2 (by omega) (by rw [← HG2.out, ← HG2.out]; exact hl2)]⟩
              case measure => simp [natOf]; omega
            · have hl2 : (!ltInt (G2 j1) (G2 a)) = false := by assumption
              have HJ2 := hide (OUT2.out (Or.inr (by rw [← HG2.out, ← HG2.out]; exact hl2)))
              have hlt := part_scans_lt ltInt a (a + 1) J dk (by omega) HI2.out HJ2.out hij2
              have HN4 := hide (HN3.out.drewN nq)
              have hcw4 : ∀ t, t < n → (wr.drewN nq).cell? ⟨blk, off + t, none⟩ = some (.int .u32 (G2 t)) := hcw2
              have hfw4 : ∀ t, t < n → (wr.drewN nq).frozen? ⟨blk, off + t, none⟩ = false := hfw2
              clear hcw2 hfw2 HN3 HD OUT2 hl2
              generalize wr.drewN nq = wq2 at HN4 hcw4 hfw4 ⊢
              have hgtz : ¬ (j1 : Int) < (i1 : Int) := by omega
              go_wp2_with fail
              go_region
              all_goals go_wp2
              go_loopw [10, 11] (fun vi vj wr => ∃ (i j : Nat) (dk2 : Array Int), vi = .int .i64 i ∧ vj = .int .i64 j ∧ a < i ∧ a ≤ j ∧ i ≤ n ∧ j < n ∧ dk2.size = n ∧ Now w blk off dk2 wr ∧ partition ltInt d a (J + 1) pivot = ((partLoop ltInt a i j dk2).1, false, swp (partLoop ltInt a i j dk2).2 (partLoop ltInt a i j dk2).1 a)) (fun vi vj _ => natOf vj + 1 - natOf vi)
              case atStart =>
                refine ⟨i1 + 1, j1 - 1, swp dk i1 j1, by go_num, by congr 1; omega, by omega, by omega, by omega, by omega, by rw [size_swp]; exact hsk, ?_, ?_⟩
                · exact (HN4.out.swap (by omega) (by omega) (HG2.out _) (HG2.out _)).drew
                · exact part_first_go ltInt d a (J + 1) pivot rfl rfl HDK.out HI2.out HJ2.out (by omega)
              case round =>
                obtain ⟨i, j, dk2, rfl, rfl, hai, haj, hin, hjn, hsk2, hN, hP⟩ := hrel
                have HP := hide hP
                have HN := hide hN
                clear hP hN HI2 HJ2 HN4 hlt hgtz hij2 hij2z hij hijz hcw4 hfw4 HG2 hsk haj1 hj1 hi1 hi1n
                have hsk := hsk2
                go_wp2
                go_loopw [10] (fun vi wr1 => ∃ (i1 : Nat), vi = .int .i64 i1 ∧ i ≤ i1 ∧ i1 ≤ n ∧ Now w blk off dk2 wr1 ∧ scanUp (fun x => ltInt x dk2[a]!) dk2 j i1 = scanUp (fun x => ltInt x dk2[a]!) dk2 j i) (fun vi _ => n + 1 - natOf vi)
                case atStart => exact ⟨i, by first | rfl | go_num, Nat.le_refl _, by omega, HN.out, rfl⟩
                case round =>
                  obtain ⟨i1, rfl, hi1, hi1n, hN1, hU⟩ := hrel
                  obtain ⟨G, hG, hcw, hfw⟩ := hN1.cells hsk
                  have HG := hide hG
                  have HN1 := hide hN1
                  have HU := hide hU
                  clear hG hN1 hU HN
                  have OUT : Hid ((¬ i1 ≤ j ∨ ltInt dk2[i1]! dk2[a]! = false) → i1 = scanUp (fun x => ltInt x dk2[a]!) dk2 j i) := hide (fun h => by rw [← HU.out, scanUp_end _ _ _ _ h])
                  go_wp2_with fail
                  by_cases hij : i1 ≤ j
                  · have hijz : (i1 : Int) ≤ (j : Int) := by omega
                    go_quiet (first | (go_at_call 28; refine Calls.quiet_of_same (less_u32 _ _ _)))
                    go_wp2_with fail
                    · have hl : ltInt (G i1) (G a) = true := by assumption
                      go_wp2
                      go_roundw
                      case rel => exact ⟨i1 + 1, by go_num, by omega, by omega, HN1.out.drewN nq, by rw [← HU.out, scanUp_go _ _ _ _ hij (by rw [← HG.out, ← HG.out]; exact hl)]⟩
                      case measure => simp [natOf]; omega
                    · have hl : ltInt (G i1) (G a) = false := by assumption
                      have HI2 := hide (OUT.out (Or.inr (by rw [← HG.out, ← HG.out]; exact hl)))
                      have HN2 := hide (HN1.out.drewN nq)
                      clear hcw hfw HG hl HN1 HU OUT
                      generalize wr.drewN nq = wq at HN2 ⊢
                      go_wp2_with fail
                      go_loopw [11] (fun vj wr2 => ∃ (j1 : Nat), vj = .int .i64 j1 ∧ a ≤ j1 ∧ j1 ≤ j ∧ Now w blk off dk2 wr2 ∧ scanDown (fun x => !ltInt x dk2[a]!) dk2 i1 j1 = scanDown (fun x => !ltInt x dk2[a]!) dk2 i1 j) (fun vj _ => natOf vj)
                      case atStart => exact ⟨j, rfl, by omega, Nat.le_refl _, HN2.out, rfl⟩
                      case round =>
                        obtain ⟨j1, rfl, haj1, hj1, hN3, hD⟩ := hrel
                        obtain ⟨G2, hG2, hcw2, hfw2⟩ := hN3.cells hsk
                        have HG2 := hide hG2
                        have HN3 := hide hN3
                        have HD := hide hD
                        clear hG2 hN3 hD HN2
                        have OUT2 : Hid ((¬ i1 ≤ j1 ∨ (!ltInt dk2[j1]! dk2[a]!) = false) → j1 = scanDown (fun x => !ltInt x dk2[a]!) dk2 i1 j) := hide (fun h => by rw [← HD.out, scanDown_end _ _ _ _ h])
                        go_wp2_with fail
                        by_cases hij2 : i1 ≤ j1
                        · have hij2z : (i1 : Int) ≤ (j1 : Int) := by omega
                          go_quiet (first | (go_at_call 28; refine Calls.quiet_of_same (less_u32 _ _ _)))
                          go_wp2_with fail
                          · have hl2 : (!ltInt (G2 j1) (G2 a)) = true := by assumption
                            go_wp2
                            go_roundw
                            case rel => exact ⟨j1 - 1, by congr 1; omega, by omega, by omega, HN3.out.drewN nq, by rw [← HD.out, scanDown_go _ _ _ _ hij2 (by omega) (by rw [← HG2.out, ← HG2.out]; exact hl2)]⟩
                            case measure => simp [natOf]; omega
                          · have hl2 : (!ltInt (G2 j1) (G2 a)) = false := by assumption
                            have HJ2 := hide (OUT2.out (Or.inr (by rw [← HG2.out, ← HG2.out]; exact hl2)))
                            have hlt := part_scans_lt ltInt a i j dk2 (by omega) HI2.out HJ2.out hij2
                            have HN4 := hide (HN3.out.drewN nq)
                            have hcw4 : ∀ t, t < n → (wr.drewN nq).cell? ⟨blk, off + t, none⟩ = some (.int .u32 (G2 t)) := hcw2
                            have hfw4 : ∀ t, t < n → (wr.drewN nq).frozen? ⟨blk, off + t, none⟩ = false := hfw2
                            clear hcw2 hfw2 HN3 HD OUT2 hl2
                            generalize wr.drewN nq = wq2 at HN4 hcw4 hfw4 ⊢
                            have hgtz : ¬ (j1 : Int) < (i1 : Int) := by omega
                            go_wp2_with fail
                            go_region
                            all_goals go_wp2
                            go_roundw
                            case rel =>
                              refine ⟨i1 + 1, j1 - 1, swp dk2 i1 j1, by go_num, by congr 1; omega, by omega, by omega, by omega, by omega, by rw [size_swp]; exact hsk, ?_, ?_⟩
                              · exact (HN4.out.swap (by omega) (by omega) (HG2.out _) (HG2.out _)).drew
                              · rw [HP.out, part_go ltInt a i j dk2 HI2.out HJ2.out (by omega)]
                            case measure => simp [natOf]; omega
                        · have hij2z : decide ((i1 : Int) ≤ (j1 : Int)) = false := decide_eq_false (by omega)
                          go_quiet (first | (go_at_call 28; refine Calls.quiet_of_same (less_u32 _ _ _)))
                          go_wp2_with fail
                          have HJ2 := hide (OUT2.out (Or.inl hij2))
                          have HN4 := hide (HN3.out.drewN nq)
                          have hcw4 : ∀ t, t < n → (wr.drewN nq).cell? ⟨blk, off + t, none⟩ = some (.int .u32 (G2 t)) := hcw2
                          have hfw4 : ∀ t, t < n → (wr.drewN nq).frozen? ⟨blk, off + t, none⟩ = false := hfw2
                          clear hcw2 hfw2 HN3 HD OUT2
                          generalize wr.drewN nq = wq2 at HN4 hcw4 hfw4 ⊢
                          have hgtz : (j1 : Int) < (i1 : Int) := by omega
                          by_cases hja : j1 = a
                          · have hja2 := hja.symm
                            clear hja
                            subst hja2
                            go_wp2_with fail
                            go_region
                            all_goals go_wp2
                            go_ret2
                            rw [HP.out, part_break ltInt a i j dk2 HI2.out HJ2.out (by omega)]
                            exact ⟨rfl, (HN4.out.swap (i := a) (j := a) (by omega) (by omega) (HG2.out _) (HG2.out _)).drew⟩
                          · have hjaz : ¬ (j1 : Int) = (a : Int) := by omega
                            go_wp2_with fail
                            go_region
                            all_goals go_wp2
                            go_ret2
                            rw [HP.out, part_break ltInt a i j dk2 HI2.out HJ2.out (by omega)]
                            exact ⟨rfl, (HN4.out.swap (i := j1) (j := a) (by omega) (by omega) (HG2.out _) (HG2.out _)).drew⟩
                  · have hijz : decide ((i1 : Int) ≤ (j : Int)) = false := decide_eq_false (by omega)
                    go_quiet (first | (go_at_call 28; refine Calls.quiet_of_same (less_u32 _ _ _)))
                    go_wp2_with fail
                    have HI2 := hide (OUT.out (Or.inl hij))
                    have HN2 := hide (HN1.out.drewN nq)
                    clear hcw hfw HG HN1 HU OUT
                    generalize wr.drewN nq = wq at HN2 ⊢
                    go_wp2_with fail
                    go_loopw [11] (fun vj wr2 => ∃ (j1 : Nat), vj = .int .i64 j1 ∧ a ≤ j1 ∧ j1 ≤ j ∧ Now w blk off dk2 wr2 ∧ scanDown (fun x => !ltInt x dk2[a]!) dk2 i1 j1 = scanDown (fun x => !ltInt x dk2[a]!) dk2 i1 j) (fun vj _ => natOf vj)
                    case atStart => exact ⟨j, rfl, by omega, Nat.le_refl _, HN2.out, rfl⟩
                    case round =>
                      obtain ⟨j1, rfl, haj1, hj1, hN3, hD⟩ := hrel
                      obtain ⟨G2, hG2, hcw2, hfw2⟩ := hN3.cells hsk
                      have HG2 := hide hG2
                      have HN3 := hide hN3
                      have HD := hide hD
                      clear hG2 hN3 hD HN2
                      have OUT2 : Hid ((¬ i1 ≤ j1 ∨ (!ltInt dk2[j1]! dk2[a]!) = false) → j1 = scanDown (fun x => !ltInt x dk2[a]!) dk2 i1 j) := hide (fun h => by rw [← HD.out, scanDown_end _ _ _ _ h])
                      go_wp2_with fail
                      by_cases hij2 : i1 ≤ j1
                      · exact absurd hij2 (by omega)
                      · have hij2z : decide ((i1 : Int) ≤ (j1 : Int)) = false := decide_eq_false (by omega)
                        go_quiet (first | (go_at_call 28; refine Calls.quiet_of_same (less_u32 _ _ _)))
                        go_wp2_with fail
                        have HJ2 := hide (OUT2.out (Or.inl hij2))
                        have HN4 := hide (HN3.out.drewN nq)
                        have hcw4 : ∀ t, t < n → (wr.drewN nq).cell? ⟨blk, off + t, none⟩ = some (.int .u32 (G2 t)) := hcw2
                        have hfw4 : ∀ t, t < n → (wr.drewN nq).frozen? ⟨blk, off + t, none⟩ = false := hfw2
                        clear hcw2 hfw2 HN3 HD OUT2
                        generalize wr.drewN nq = wq2 at HN4 hcw4 hfw4 ⊢
                        have hgtz : (j1 : Int) < (i1 : Int) := by omega
                        by_cases hja : j1 = a
                        · have hja2 := hja.symm
                          clear hja
                          subst hja2
                          go_wp2_with fail
                          go_region
                          all_goals go_wp2
                          go_ret2
                          rw [HP.out, part_break ltInt a i j dk2 HI2.out HJ2.out (by omega)]
                          exact ⟨rfl, (HN4.out.swap (i := a) (j := a) (by omega) (by omega) (HG2.out _) (HG2.out _)).drew⟩
                        · have hjaz : ¬ (j1 : Int) = (a : Int) := by omega
                          go_wp2_with fail
                          go_region
                          all_goals go_wp2
                          go_ret2
                          rw [HP.out, part_break ltInt a i j dk2 HI2.out HJ2.out (by omega)]
                          exact ⟨rfl, (HN4.out.swap (i := j1) (j := a) (by omega) (by omega) (HG2.out _) (HG2.out _)).drew⟩
          · have hij2z : decide ((i1 : Int) ≤ (j1 : Int)) = false := decide_eq_false (by omega)
            go_quiet (first | (go_at_call 28; refine Calls.quiet_of_same (less_u32 _ _ _)))
            go_wp2_with fail
            have HJ2 := hide (OUT2.out (Or.inl hij2))
            have HN4 := hide (HN3.out.drewN nq)
            have hcw4 : ∀ t, t < n → (wr.drewN nq).cell? ⟨blk, off + t, none⟩ = some (.int .u32 (G2 t)) := hcw2
            have hfw4 : ∀ t, t < n → (wr.drewN nq).frozen? ⟨blk, off + t, none⟩ = false := hfw2
            clear hcw2 hfw2 HN3 HD OUT2
            generalize wr.drewN nq = wq2 at HN4 hcw4 hfw4 ⊢
            have hgtz : (j1 : Int) < (i1 : Int) := by omega
            by_cases hja : j1 = a
            · have hja2 := hja.symm
              clear hja
              subst hja2
              go_wp2_with fail
              go_region
              all_goals go_wp2
              go_ret2
              rw [part_first_break ltInt d a (J + 1) pivot rfl rfl HDK.out HI2.out HJ2.out (by omega)]
              exact ⟨rfl, (HN4.out.swap (i := a) (j := a) (by omega) (by omega) (HG2.out _) (HG2.out _)).drew⟩
            · have hjaz : ¬ (j1 : Int) = (a : Int) := by omega
              go_wp2_with fail
              go_region
              all_goals go_wp2
              go_ret2
              rw [part_first_break ltInt d a (J + 1) pivot rfl rfl HDK.out HI2.out HJ2.out (by omega)]
              exact ⟨rfl, (HN4.out.swap (i := j1) (j := a) (by omega) (by omega) (HG2.out _) (HG2.out _)).drew⟩
    · have hijz : decide ((i1 : Int) ≤ (J : Int)) = false := decide_eq_false (by omega)
      go_quiet (first | (go_at_call 28; refine Calls.quiet_of_same (less_u32 _ _ _)))
      go_wp2_with fail
      have HI2 := hide (OUT.out (Or.inl hij))
      have HN2 := hide (HN1.out.drewN nq)
      clear hcw hfw HG HN1 HU OUT
      generalize wr.drewN nq = wq at HN2 ⊢
      go_wp2_with fail
      go_loopw [11] (fun vj wr2 => ∃ (j1 : Nat), vj = .int .i64 j1 ∧ a ≤ j1 ∧ j1 ≤ J ∧ Now w blk off dk wr2 ∧ scanDown (fun x => !ltInt x dk[a]!) dk i1 j1 = scanDown (fun x => !ltInt x dk[a]!) dk i1 J) (fun vj _ => natOf vj)
      case atStart => exact ⟨J, rfl, by omega, Nat.le_refl _, HN2.out, rfl⟩
      case round =>
        obtain ⟨j1, rfl, haj1, hj1, hN3, hD⟩ := hrel
        obtain ⟨G2, hG2, hcw2, hfw2⟩ := hN3.cells hsk
        have HG2 := hide hG2
        have HN3 := hide hN3
        have HD := hide hD
        clear hG2 hN3 hD HN2
        have OUT2 : Hid ((¬ i1 ≤ j1 ∨ (!ltInt dk[j1]! dk[a]!) = false) → j1 = scanDown (fun x => !ltInt x dk[a]!) dk i1 J) := hide (fun h => by rw [← HD.out, scanDown_end _ _ _ _ h])
        go_wp2_with fail
        by_cases hij2 : i1 ≤ j1
        · exact absurd hij2 (by omega)
        · have hij2z : decide ((i1 : Int) ≤ (j1 : Int)) = false := decide_eq_false (by omega)
          go_quiet (first | (go_at_call 28; refine Calls.quiet_of_same (less_u32 _ _ _)))
          go_wp2_with fail
          have HJ2 := hide (OUT2.out (Or.inl hij2))
          have HN4 := hide (HN3.out.drewN nq)
          have hcw4 : ∀ t, t < n → (wr.drewN nq).cell? ⟨blk, off + t, none⟩ = some (.int .u32 (G2 t)) := hcw2
          have hfw4 : ∀ t, t < n → (wr.drewN nq).frozen? ⟨blk, off + t, none⟩ = false := hfw2
          clear hcw2 hfw2 HN3 HD OUT2
          generalize wr.drewN nq = wq2 at HN4 hcw4 hfw4 ⊢
          have hgtz : (j1 : Int) < (i1 : Int) := by omega
          by_cases hja : j1 = a
          · have hja2 := hja.symm
            clear hja
            subst hja2
            go_wp2_with fail
            go_region
            all_goals go_wp2
            go_ret2
            rw [part_first_break ltInt d a (J + 1) pivot rfl rfl HDK.out HI2.out HJ2.out (by omega)]
            exact ⟨rfl, (HN4.out.swap (i := a) (j := a) (by omega) (by omega) (HG2.out _) (HG2.out _)).drew⟩
          · have hjaz : ¬ (j1 : Int) = (a : Int) := by omega
            go_wp2_with fail
            go_region
            all_goals go_wp2
            go_ret2
            rw [part_first_break ltInt d a (J + 1) pivot rfl rfl HDK.out HI2.out HJ2.out (by omega)]
            exact ⟨rfl, (HN4.out.swap (i := j1) (j := a) (by omega) (by omega) (HG2.out _) (HG2.out _)).drew⟩

set_option maxHeartbeats 20000000 in
set_option maxRecDepth 1000000 in
theorem part_near (blk off cap n a J : Nat) (d : Array Int) (w : World) (hn : d.size = n) (hH : Holds eU w blk off d) (hblk : blk < w.heap.size) (hpb : a ≤ J) (hb : J < n) (hsz : n < 4611686018427387904) :
    Calls Yba.prog 30 #[.slice (some ⟨blk, off, none⟩) n cap, .int .i64 a, .int .i64 ((J : Int) + 1), .int .i64 a] w fun e w' => e = .returned (.tuple #[.int .i64 (partition ltInt d a (J + 1) a).1, .bool (partition ltInt d a (J + 1) a).2.1]) ∧ Now w blk off (partition ltInt d a (J + 1) a).2.2 w' := by
  have hN0 := Now.refl hH hblk
  obtain ⟨G0, hG0, hcw0, hfw0⟩ := hN0.cells hn
  have HG0 := hide hG0
  have HN0 := hide hN0
  clear hH hN0 hG0
  go_enter Yba.func30, Yba.ntmps30
  go_wp2_with fail
  go_region
  all_goals go_wp2
  have HN := hide ((HN0.out.swap (i := a) (j := a) (by omega) (by omega) (HG0.out _) (HG0.out _)).drew)
  obtain ⟨dk, hdk⟩ : ∃ dk, dk = swp d a a := ⟨_, rfl⟩
  rw [← hdk] at HN
  have hsk : dk.size = n := by rw [hdk, size_swp]; exact hn
  have HDK := hide hdk
  clear hdk HN0 HG0 hcw0 hfw0
  go_loopw [10] (fun vi wr1 => ∃ (i1 : Nat), vi = .int .i64 i1 ∧ (a + 1) ≤ i1 ∧ i1 ≤ n ∧ Now w blk off dk wr1 ∧ scanUp (fun x => ltInt x dk[a]!) dk J i1 = scanUp (fun x => ltInt x dk[a]!) dk J (a + 1)) (fun vi _ => n + 1 - natOf vi)
  case atStart => exact ⟨(a + 1), by first | rfl | go_num, Nat.le_refl _, by omega, HN.out, rfl⟩
  case round =>
    obtain ⟨i1, rfl, hi1, hi1n, hN1, hU⟩ := hrel
    obtain ⟨G, hG, hcw, hfw⟩ := hN1.cells hsk
    have HG := hide hG
    have HN1 := hide hN1
    have HU := hide hU
    clear hG hN1 hU HN
    have OUT : Hid ((¬ i1 ≤ J ∨ ltInt dk[i1]! dk[a]! = false) → i1 = scanUp (fun x => ltInt x dk[a]!) dk J (a + 1)) := hide (fun h => by rw [← HU.out, scanUp_end _ _ _ _ h])
    go_wp2_with fail
    by_cases hij : i1 ≤ J
    · have hijz : (i1 : Int) ≤ (J : Int) := by omega
      go_quiet (first | (go_at_call 28; refine Calls.quiet_of_same (less_u32 _ _ _)))
      go_wp2_with fail
      · have hl : ltInt (G i1) (G a) = true := by assumption
        go_wp2
        go_roundw
        case rel => exact ⟨i1 + 1, by go_num, by omega, by omega, HN1.out.drewN nq, by rw [← HU.out, scanUp_go _ _ _ _ hij (by rw [← HG.out, ← HG.out]; exact hl)]⟩
        case measure => simp [natOf]; omega
      · have hl : ltInt (G i1) (G a) = false := by assumption
        have HI2 := hide (OUT.out (Or.inr (by rw [← HG.out, ← HG.out]; exact hl)))
        have HN2 := hide (HN1.out.drewN nq)
        clear hcw hfw HG hl HN1 HU OUT
        generalize wr.drewN nq = wq at HN2 ⊢
        go_wp2_with fail
        go_loopw [11] (fun vj wr2 => ∃ (j1 : Nat), vj = .int .i64 j1 ∧ a ≤ j1 ∧ j1 ≤ J ∧ Now w blk off dk wr2 ∧ scanDown (fun x => !ltInt x dk[a]!) dk i1 j1 = scanDown (fun x => !ltInt x dk[a]!) dk i1 J) (fun vj _ => natOf vj)
        case atStart => exact ⟨J, rfl, by omega, Nat.le_refl _, HN2.out, rfl⟩
        case round =>
          obtain ⟨j1, rfl, haj1, hj1, hN3, hD⟩ := hrel
          obtain ⟨G2, hG2, hcw2, hfw2⟩ := hN3.cells hsk
          have HG2 := hide hG2
          have HN3 := hide hN3
          have HD := hide hD
          clear hG2 hN3 hD HN2
          have OUT2 : Hid ((¬ i1 ≤ j1 ∨ (!ltInt dk[j1]! dk[a]!) = false) → j1 = scanDown (fun x => !ltInt x dk[a]!) dk i1 J) := hide (fun h => by rw [← HD.out, scanDown_end _ _ _ _ h])
          go_wp2_with fail
          by_cases hij2 : i1 ≤ j1
          · have hij2z : (i1 : Int) ≤ (j1 : Int) := by omega
            go_quiet (first | (go_at_call 28; refine Calls.quiet_of_same (less_u32 _ _ _)))
            go_wp2_with fail
            · have hl2 : (!ltInt (G2 j1) (G2 a)) = true := by assumption
              go_wp2
              go_roundw
              case rel => exact ⟨j1 - 1, by congr 1; omega, by omega, by omega, HN3.out.drewN nq, by rw [← HD.out, scanDown_go _ _ _ _ hij2 (by omega) (by rw [← HG2.out, ← HG2.out]; exact hl2)]⟩
              case measure => simp [natOf]; omega
            · have hl2 : (!ltInt (G2 j1) (G2 a)) = false := by assumption
              have HJ2 := hide (OUT2.out (Or.inr (by rw [← HG2.out, ← HG2.out]; exact hl2)))
              have hlt := part_scans_lt ltInt a (a + 1) J dk (by omega) HI2.out HJ2.out hij2
              have HN4 := hide (HN3.out.drewN nq)
              have hcw4 : ∀ t, t < n → (wr.drewN nq).cell? ⟨blk, off + t, none⟩ = some (.int .u32 (G2 t)) := hcw2
              have hfw4 : ∀ t, t < n → (wr.drewN nq).frozen? ⟨blk, off + t, none⟩ = false := hfw2
              clear hcw2 hfw2 HN3 HD OUT2 hl2
              generalize wr.drewN nq = wq2 at HN4 hcw4 hfw4 ⊢
              have hgtz : ¬ (j1 : Int) < (i1 : Int) := by omega
              go_wp2_with fail
              go_region
              all_goals go_wp2
              go_loopw [10, 11] (fun vi vj wr => ∃ (i j : Nat) (dk2 : Array Int), vi = .int .i64 i ∧ vj = .int .i64 j ∧ a < i ∧ a ≤ j ∧ i ≤ n ∧ j < n ∧ dk2.size = n ∧ Now w blk off dk2 wr ∧ partition ltInt d a (J + 1) a = ((partLoop ltInt a i j dk2).1, false, swp (partLoop ltInt a i j dk2).2 (partLoop ltInt a i j dk2).1 a)) (fun vi vj _ => natOf vj + 1 - natOf vi)
              case atStart =>
                refine ⟨i1 + 1, j1 - 1, swp dk i1 j1, by go_num, by congr 1; omega, by omega, by omega, by omega, by omega, by rw [size_swp]; exact hsk, ?_, ?_⟩
                · exact (HN4.out.swap (by omega) (by omega) (HG2.out _) (HG2.out _)).drew
                · exact part_first_go ltInt d a (J + 1) a rfl rfl HDK.out HI2.out HJ2.out (by omega)
              case round =>
                obtain ⟨i, j, dk2, rfl, rfl, hai, haj, hin, hjn, hsk2, hN, hP⟩ := hrel
                have HP := hide hP
                have HN := hide hN
                clear hP hN HI2 HJ2 HN4 hlt hgtz hij2 hij2z hij hijz hcw4 hfw4 HG2 hsk haj1 hj1 hi1 hi1n
                have hsk := hsk2
                go_wp2
                go_loopw [10] (fun vi wr1 => ∃ (i1 : Nat), vi = .int .i64 i1 ∧ i ≤ i1 ∧ i1 ≤ n ∧ Now w blk off dk2 wr1 ∧ scanUp (fun x => ltInt x dk2[a]!) dk2 j i1 = scanUp (fun x => ltInt x dk2[a]!) dk2 j i) (fun vi _ => n + 1 - natOf vi)
                case atStart => exact ⟨i, by first | rfl | go_num, Nat.le_refl _, by omega, HN.out, rfl⟩
                case round =>
                  obtain ⟨i1, rfl, hi1, hi1n, hN1, hU⟩ := hrel
                  obtain ⟨G, hG, hcw, hfw⟩ := hN1.cells hsk
                  have HG := hide hG
                  have HN1 := hide hN1
                  have HU := hide hU
                  clear hG hN1 hU HN
                  have OUT : Hid ((¬ i1 ≤ j ∨ ltInt dk2[i1]! dk2[a]! = false) → i1 = scanUp (fun x => ltInt x dk2[a]!) dk2 j i) := hide (fun h => by rw [← HU.out, scanUp_end _ _ _ _ h])
                  go_wp2_with fail
                  by_cases hij : i1 ≤ j
                  · have hijz : (i1 : Int) ≤ (j : Int) := by omega
                    go_quiet (first | (go_at_call 28; refine Calls.quiet_of_same (less_u32 _ _ _)))
                    go_wp2_with fail
                    · have hl : ltInt (G i1) (G a) = true := by assumption
                      go_wp2
                      go_roundw
                      case rel => exact ⟨i1 + 1, by go_num, by omega, by omega, HN1.out.drewN nq, by rw [← HU.out, scanUp_go _ _ _ _ hij (by rw [← HG.out, ← HG.out]; exact hl)]⟩
                      case measure => simp [natOf]; omega
                    · have hl : ltInt (G i1) (G a) = false := by assumption
                      have HI2 := hide (OUT.out (Or.inr (by rw [← HG.out, ← HG.out]; exact hl)))
                      have HN2 := hide (HN1.out.drewN nq)
                      clear hcw hfw HG hl HN1 HU OUT
                      generalize wr.drewN nq = wq at HN2 ⊢
                      go_wp2_with fail
                      go_loopw [11] (fun vj wr2 => ∃ (j1 : Nat), vj = .int .i64 j1 ∧ a ≤ j1 ∧ j1 ≤ j ∧ Now w blk off dk2 wr2 ∧ scanDown (fun x => !ltInt x dk2[a]!) dk2 i1 j1 = scanDown (fun x => !ltInt x dk2[a]!) dk2 i1 j) (fun vj _ => natOf vj)
                      case atStart => exact ⟨j, rfl, by omega, Nat.le_refl _, HN2.out, rfl⟩
                      case round =>
                        obtain ⟨j1, rfl, haj1, hj1, hN3, hD⟩ := hrel
                        obtain ⟨G2, hG2, hcw2, hfw2⟩ := hN3.cells hsk
                        have HG2 := hide hG2
                        have HN3 := hide hN3
                        have HD := hide hD
                        clear hG2 hN3 hD HN2
                        have OUT2 : Hid ((¬ i1 ≤ j1 ∨ (!ltInt dk2[j1]! dk2[a]!) = false) → j1 = scanDown (fun x => !ltInt x dk2[a]!) dk2 i1 j) := hide (fun h => by rw [← HD.out, scanDown_end _ _ _ _ h])
                        go_wp2_with fail
                        by_cases hij2 : i1 ≤ j1
                        · have hij2z : (i1 : Int) ≤ (j1 : Int) := by omega
                          go_quiet (first | (go_at_call 28; refine Calls.quiet_of_same (less_u32 _ _ _)))
                          go_wp2_with fail
                          · have hl2 : (!ltInt (G2 j1) (G2 a)) = true := by assumption
                            go_wp2
                            go_roundw
                            case rel => exact ⟨j1 - 1, by congr 1; omega, by omega, by omega, HN3.out.drewN nq, by rw [← HD.out, scanDown_go _ _ _ _ hij2 (by omega) (by rw [← HG2.out, ← HG2.out]; exact hl2)]⟩
                            case measure => simp [natOf]; omega
                          · have hl2 : (!ltInt (G2 j1) (G2 a)) = false := by assumption
                            have HJ2 := hide (OUT2.out (Or.inr (by rw [← HG2.out, ← HG2.out]; exact hl2)))
                            have hlt := part_scans_lt ltInt a i j dk2 (by omega) HI2.out HJ2.out hij2
                            have HN4 := hide (HN3.out.drewN nq)
                            have hcw4 : ∀ t, t < n → (wr.drewN nq).cell? ⟨blk, off + t, none⟩ = some (.int .u32 (G2 t)) := hcw2
                            have hfw4 : ∀ t, t < n → (wr.drewN nq).frozen? ⟨blk, off + t, none⟩ = false := hfw2
                            clear hcw2 hfw2 HN3 HD OUT2 hl2
                            generalize wr.drewN nq = wq2 at HN4 hcw4 hfw4 ⊢
                            have hgtz : ¬ (j1 : Int) < (i1 : Int) := by omega
                            go_wp2_with fail
                            go_region
                            all_goals go_wp2
                            go_roundw
                            case rel =>
                              refine ⟨i1 + 1, j1 - 1, swp dk2 i1 j1, by go_num, by congr 1; omega, by omega, by omega, by omega, by omega, by rw [size_swp]; exact hsk, ?_, ?_⟩
                              · exact (HN4.out.swap (by omega) (by omega) (HG2.out _) (HG2.out _)).drew
                              · rw [HP.out, part_go ltInt a i j dk2 HI2.out HJ2.out (by omega)]
                            case measure => simp [natOf]; omega
                        · have hij2z : decide ((i1 : Int) ≤ (j1 : Int)) = false := decide_eq_false (by omega)
                          go_quiet (first | (go_at_call 28; refine Calls.quiet_of_same (less_u32 _ _ _)))
                          go_wp2_with fail
                          have HJ2 := hide (OUT2.out (Or.inl hij2))
                          have HN4 := hide (HN3.out.drewN nq)
                          have hcw4 : ∀ t, t < n → (wr.drewN nq).cell? ⟨blk, off + t, none⟩ = some (.int .u32 (G2 t)) := hcw2
                          have hfw4 : ∀ t, t < n → (wr.drewN nq).frozen? ⟨blk, off + t, none⟩ = false := hfw2
                          clear hcw2 hfw2 HN3 HD OUT2
                          generalize wr.drewN nq = wq2 at HN4 hcw4 hfw4 ⊢
                          have hgtz : (j1 : Int) < (i1 : Int) := by omega
                          by_cases hja : j1 = a
                          · have hja2 := hja.symm
                            clear hja
                            subst hja2
                            go_wp2_with fail
                            go_region
                            all_goals go_wp2
                            go_ret2
                            rw [HP.out, part_break ltInt a i j dk2 HI2.out HJ2.out (by omega)]
                            exact ⟨rfl, (HN4.out.swap (i := a) (j := a) (by omega) (by omega) (HG2.out _) (HG2.out _)).drew⟩
                          · have hjaz : ¬ (j1 : Int) = (a : Int) := by omega
                            go_wp2_with fail
                            go_region
                            all_goals go_wp2
                            go_ret2
                            rw [HP.out, part_break ltInt a i j dk2 HI2.out HJ2.out (by omega)]
                            exact ⟨rfl, (HN4.out.swap (i := j1) (j := a) (by omega) (by omega) (HG2.out _) (HG2.out _)).drew⟩
                  · have hijz : decide ((i1 : Int) ≤ (j : Int)) = false := decide_eq_false (by omega)
                    go_quiet (first | (go_at_call 28; refine Calls.quiet_of_same (less_u32 _ _ _)))
                    go_wp2_with fail
                    have HI2 := hide (OUT.out (Or.inl hij))
                    have HN2 := hide (HN1.out.drewN nq)
                    clear hcw hfw HG HN1 HU OUT
                    generalize wr.drewN nq = wq at HN2 ⊢
                    go_wp2_with fail
                    go_loopw [11] (fun vj wr2 => ∃ (j1 : Nat), vj = .int .i64 j1 ∧ a ≤ j1 ∧ j1 ≤ j ∧ Now w blk off dk2 wr2 ∧ scanDown (fun x => !ltInt x dk2[a]!) dk2 i1 j1 = scanDown (fun x => !ltInt x dk2[a]!) dk2 i1 j) (fun vj _ => natOf vj)
                    case atStart => exact ⟨j, rfl, by omega, Nat.le_refl _, HN2.out, rfl⟩
                    case round =>
                      obtain ⟨j1, rfl, haj1, hj1, hN3, hD⟩ := hrel
                      obtain ⟨G2, hG2, hcw2, hfw2⟩ := hN3.cells hsk
                      have HG2 := hide hG2
                      have HN3 := hide hN3
                      have HD := hide hD
                      clear hG2 hN3 hD HN2
                      have OUT2 : Hid ((¬ i1 ≤ j1 ∨ (!ltInt dk2[j1]! dk2[a]!) = false) → j1 = scanDown (fun x => !ltInt x dk2[a]!) dk2 i1 j) := hide (fun h => by rw [← HD.out, scanDown_end _ _ _ _ h])
                      go_wp2_with fail
                      by_cases hij2 : i1 ≤ j1
                      · exact absurd hij2 (by omega)
                      · have hij2z : decide ((i1 : Int) ≤ (j1 : Int)) = false := decide_eq_false (by omega)
                        go_quiet (first | (go_at_call 28; refine Calls.quiet_of_same (less_u32 _ _ _)))
                        go_wp2_with fail
                        have HJ2 := hide (OUT2.out (Or.inl hij2))
                        have HN4 := hide (HN3.out.drewN nq)
                        have hcw4 : ∀ t, t < n → (wr.drewN nq).cell? ⟨blk, off + t, none⟩ = some (.int .u32 (G2 t)) := hcw2
                        have hfw4 : ∀ t, t < n → (wr.drewN nq).frozen? ⟨blk, off + t, none⟩ = false := hfw2
                        clear hcw2 hfw2 HN3 HD OUT2
                        generalize wr.drewN nq = wq2 at HN4 hcw4 hfw4 ⊢
                        have hgtz : (j1 : Int) < (i1 : Int) := by omega
                        by_cases hja : j1 = a
                        · have hja2 := hja.symm
                          clear hja
                          subst hja2
                          go_wp2_with fail
                          go_region
                          all_goals go_wp2
                          go_ret2
                          rw [HP.out, part_break ltInt a i j dk2 HI2.out HJ2.out (by omega)]
                          exact ⟨rfl, (HN4.out.swap (i := a) (j := a) (by omega) (by omega) (HG2.out _) (HG2.out _)).drew⟩
                        · have hjaz : ¬ (j1 : Int) = (a : Int) := by omega
                          go_wp2_with fail
                          go_region
                          all_goals go_wp2
                          go_ret2
                          rw [HP.out, part_break ltInt a i j dk2 HI2.out HJ2.out (by omega)]
                          exact ⟨rfl, (HN4.out.swap (i := j1) (j := a) (by omega) (by omega) (HG2.out _) (HG2.out _)).drew⟩
          · have hij2z : decide ((i1 : Int) ≤ (j1 : Int)) = false := decide_eq_false (by omega)
            go_quiet (first | (go_at_call 28; refine Calls.quiet_of_same (less_u32 _ _ _)))
            go_wp2_with fail
            have HJ2 := hide (OUT2.out (Or.inl hij2))
            have HN4 := hide (HN3.out.drewN nq)
            have hcw4 : ∀ t, t < n → (wr.drewN nq).cell? ⟨blk, off + t, none⟩ = some (.int .u32 (G2 t)) := hcw2
            have hfw4 : ∀ t, t < n → (wr.drewN nq).frozen? ⟨blk, off + t, none⟩ = false := hfw2
            clear hcw2 hfw2 HN3 HD OUT2
            generalize wr.drewN nq = wq2 at HN4 hcw4 hfw4 ⊢
            have hgtz : (j1 : Int) < (i1 : Int) := by omega
            by_cases hja : j1 = a
            · have hja2 := hja.symm
              clear hja
              subst hja2
              go_wp2_with fail
              go_region
              all_goals go_wp2
              go_ret2
              rw [part_first_break ltInt d a (J + 1) a rfl rfl HDK.out HI2.out HJ2.out (by omega)]
              exact ⟨rfl, (HN4.out.swap (i := a) (j := a) (by omega) (by omega) (HG2.out _) (HG2.out _)).drew⟩
            · have hjaz : ¬ (j1 : Int) = (a : Int) := by omega
              go_wp2_with fail
              go_region
              all_goals go_wp2
              go_ret2
              rw [part_first_break ltInt d a (J + 1) a rfl rfl HDK.out HI2.out HJ2.out (by omega)]
              exact ⟨rfl, (HN4.out.swap (i := j1) (j := a) (by omega) (by omega) (HG2.out _) (HG2.out _)).drew⟩
    · have hijz : decide ((i1 : Int) ≤ (J : Int)) = false := decide_eq_false (by omega)
      go_quiet (first | (go_at_call 28; refine Calls.quiet_of_same (less_u32 _ _ _)))
      go_wp2_with fail
      have HI2 := hide (OUT.out (Or.inl hij))
      have HN2 := hide (HN1.out.drewN nq)
      clear hcw hfw HG HN1 HU OUT
      generalize wr.drewN nq = wq at HN2 ⊢
      go_wp2_with fail
      go_loopw [11] (fun vj wr2 => ∃ (j1 : Nat), vj = .int .i64 j1 ∧ a ≤ j1 ∧ j1 ≤ J ∧ Now w blk off dk wr2 ∧ scanDown (fun x => !ltInt x dk[a]!) dk i1 j1 = scanDown (fun x => !ltInt x dk[a]!) dk i1 J) (fun vj _ => natOf vj)
      case atStart => exact ⟨J, rfl, by omega, Nat.le_refl _, HN2.out, rfl⟩
      case round =>
        obtain ⟨j1, rfl, haj1, hj1, hN3, hD⟩ := hrel
        obtain ⟨G2, hG2, hcw2, hfw2⟩ := hN3.cells hsk
        have HG2 := hide hG2
        have HN3 := hide hN3
        have HD := hide hD
        clear hG2 hN3 hD HN2
        have OUT2 : Hid ((¬ i1 ≤ j1 ∨ (!ltInt dk[j1]! dk[a]!) = false) → j1 = scanDown (fun x => !ltInt x dk[a]!) dk i1 J) := hide (fun h => by rw [← HD.out, scanDown_end _ _ _ _ h])
        go_wp2_with fail
        by_cases hij2 : i1 ≤ j1
        · exact absurd hij2 (by omega)
        · have hij2z : decide ((i1 : Int) ≤ (j1 : Int)) = false := decide_eq_false (by omega)
          go_quiet (first | (go_at_call 28; refine Calls.quiet_of_same (less_u32 _ _ _)))
          go_wp2_with fail
          have HJ2 := hide (OUT2.out (Or.inl hij2))
          have HN4 := hide (HN3.out.drewN nq)
          have hcw4 : ∀ t, t < n → (wr.drewN nq).cell? ⟨blk, off + t, none⟩ = some (.int .u32 (G2 t)) := hcw2
          have hfw4 : ∀ t, t < n → (wr.drewN nq).frozen? ⟨blk, off + t, none⟩ = false := hfw2
          clear hcw2 hfw2 HN3 HD OUT2
          generalize wr.drewN nq = wq2 at HN4 hcw4 hfw4 ⊢
          have hgtz : (j1 : Int) < (i1 : Int) := by omega
          by_cases hja : j1 = a
          · have hja2 := hja.symm
            clear hja
            subst hja2
            go_wp2_with fail
            go_region
            all_goals go_wp2
            go_ret2
            rw [part_first_break ltInt d a (J + 1) a rfl rfl HDK.out HI2.out HJ2.out (by omega)]
            exact ⟨rfl, (HN4.out.swap (i := a) (j := a) (by omega) (by omega) (HG2.out _) (HG2.out _)).drew⟩
          · have hjaz : ¬ (j1 : Int) = (a : Int) := by omega
            go_wp2_with fail
            go_region
            all_goals go_wp2
            go_ret2
            rw [part_first_break ltInt d a (J + 1) a rfl rfl HDK.out HI2.out HJ2.out (by omega)]
            exact ⟨rfl, (HN4.out.swap (i := j1) (j := a) (by omega) (by omega) (HG2.out _) (HG2.out _)).drew⟩

theorem part_u32 (blk off cap n a b pivot : Nat) (d : Array Int) (w : World) (hn : d.size = n) (hH : Holds eU w blk off d) (hblk : blk < w.heap.size) (hap : a ≤ pivot) (hpb : pivot < b) (hb : b ≤ n) (hsz : n < 4611686018427387904) :
    Calls Yba.prog 30 #[.slice (some ⟨blk, off, none⟩) n cap, .int .i64 a, .int .i64 b, .int .i64 pivot] w fun e w' => e = .returned (.tuple #[.int .i64 (partition ltInt d a b pivot).1, .bool (partition ltInt d a b pivot).2.1]) ∧ Now w blk off (partition ltInt d a b pivot).2.2 w' := by
  obtain ⟨J, rfl⟩ : ∃ J, b = J + 1 := ⟨b - 1, by omega⟩
  rw [show ((J + 1 : Nat) : Int) = (J : Int) + 1 by omega]
  by_cases h : a = pivot
  · subst h
    exact part_near blk off cap n a J d w hn hH hblk (by omega) (by omega) hsz
  · exact part_far blk off cap n a J pivot d w hn hH hblk (by omega) (by omega) (by omega) hsz
end Go.Proofs.Ybulkbte
