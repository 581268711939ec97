/- slices.Sort at uint32, seventh part: partialInsertionSort. -/
import Derived.Test.YbulkbteSortD
namespace Go.Proofs.Ybulkbte
open Go.RowKit Go.WideShapes Go.Sort

set_option maxHeartbeats 20000000 in
set_option maxRecDepth 1000000 in
theorem pins_u32 (blk off cap n a b : Nat) (d : Array Int) (w : World) (hn : d.size = n) (hH : Holds eU w blk off d) (hblk : blk < w.heap.size) (hab : a < b) (hb : b ≤ n) (hsz : n < 4611686018427387904) :
    Calls Yba.prog 27 #[.slice (some ⟨blk, off, none⟩) n cap, .int .i64 a, .int .i64 b] w fun e w' => e = .returned (.bool (partialInsertionSort ltInt d a b).2) ∧ Now w blk off (partialInsertionSort ltInt d a b).1 w' := by
  have HN0 := hide (Now.refl hH hblk)
  clear hH
  go_enter Yba.func27, Yba.ntmps27
  go_wp2
  go_loopw [7, 8] (fun vi vs wr => ∃ (i s : Nat) (dk : Array Int), vi = .int .i64 i ∧ vs = .int .i64 s ∧ a < i ∧ i ≤ b ∧ s ≤ 5 ∧ dk.size = n ∧ Now w blk off dk wr ∧ partialIns ltInt a b (5 - s) i dk = partialInsertionSort ltInt d a b) (fun _ vs _ => 5 - natOf vs)
  case atStart => exact ⟨a + 1, 0, d, by go_num, rfl, by omega, by omega, by omega, hn, HN0.out, rfl⟩
  case round =>
    obtain ⟨i, s, dk, rfl, rfl, hai, hib, hs5, hsk, hN, hO⟩ := hrel
    have HO := hide hO
    have HN := hide hN
    clear hO hN HN0
    by_cases hs : s < 5
    · have hsz5 : (s : Int) < 5 := by omega
      go_wp2
      go_loopw [7] (fun vi wr1 => ∃ (i1 : Nat), vi = .int .i64 i1 ∧ i ≤ i1 ∧ i1 ≤ b ∧ Now w blk off dk wr1 ∧ scanSorted ltInt dk b i1 = scanSorted ltInt dk b i) (fun vi _ => b + 1 - natOf vi)
      case atStart => exact ⟨i, rfl, Nat.le_refl _, hib, HN.out, rfl⟩
      case round =>
        obtain ⟨i1, rfl, hi1, hi1b, hN1, hU⟩ := hrel
        obtain ⟨G, hG, hcw, hfw⟩ := hN1.cells hsk
        have HG := hide hG
        have HN1 := hide hN1
        have HU := hide hU
        clear hG hN1 hU HN
        have OUT : Hid ((¬ i1 < b ∨ ltInt dk[i1]! dk[i1 - 1]! = true) → scanSorted ltInt dk b i = i1) := hide (fun h => by rw [← HU.out, scanSorted_stop _ _ _ _ h])
        go_wp2_with fail
        by_cases hlt : i1 < b
        · have hltz : (i1 : Int) < (b : Int) := by omega
          have hneb : ((i1 : Int) == (b : Int)) = false := by simp; omega
          by_cases h50 : b - a < 50
          · have h50z : (b : Int) - (a : Int) < 50 := by omega
            go_quiet (first | (go_at_call 28; refine Calls.quiet_of_same (less_u32 _ _ _)))
            go_wp2_with fail
            · have hl : ltInt (G i1) (G (i1 - 1)) = false := by
                have : (!ltInt (G i1) (G (i1 - 1))) = true := by assumption
                simpa using this
              go_wp2
              go_roundw
              case rel => exact ⟨i1 + 1, by go_num, by omega, by omega, HN1.out.drewN nq, by rw [← HU.out, scanSorted_go _ _ _ _ hlt (by rw [← HG.out, ← HG.out]; exact hl)]⟩
              case measure => simp [natOf]; omega
            · have hl : ltInt (G i1) (G (i1 - 1)) = true := by
                have : (!ltInt (G i1) (G (i1 - 1))) = false := by assumption
                simpa using this
              have HK := hide (OUT.out (Or.inr (by rw [← HG.out, ← HG.out]; exact hl)))
              have HN2 := hide (HN1.out.drewN nq)
              have hcw2 : ∀ t, t < n → (wr.drewN nq).cell? ⟨blk, off + t, none⟩ = some (.int .u32 (G t)) := hcw
              have hfw2 : ∀ t, t < n → (wr.drewN nq).frozen? ⟨blk, off + t, none⟩ = false := hfw
              clear hcw hfw HN1 HU OUT hl
              generalize wr.drewN nq = wq at HN2 hcw2 hfw2 ⊢
              go_wp2
              go_ret
              rw [← HO.out, pi_short ltInt a b s i dk (by omega) (by rw [HK.out]; omega) h50]
              exact ⟨rfl, HN2.out⟩
          · have h50z : ¬ (b : Int) - (a : Int) < 50 := by omega
            go_quiet (first | (go_at_call 28; refine Calls.quiet_of_same (less_u32 _ _ _)))
            go_wp2_with fail
            · have hl : ltInt (G i1) (G (i1 - 1)) = false := by
                have : (!ltInt (G i1) (G (i1 - 1))) = true := by assumption
                simpa using this
              go_wp2
              go_roundw
              case rel => exact ⟨i1 + 1, by go_num, by omega, by omega, HN1.out.drewN nq, by rw [← HU.out, scanSorted_go _ _ _ _ hlt (by rw [← HG.out, ← HG.out]; exact hl)]⟩
              case measure => simp [natOf]; omega
            · have hl : ltInt (G i1) (G (i1 - 1)) = true := by
                have : (!ltInt (G i1) (G (i1 - 1))) = false := by assumption
                simpa using this
              have HK := hide (OUT.out (Or.inr (by rw [← HG.out, ← HG.out]; exact hl)))
              have HN2 := hide (HN1.out.drewN nq)
              have hcw2 : ∀ t, t < n → (wr.drewN nq).cell? ⟨blk, off + t, none⟩ = some (.int .u32 (G t)) := hcw
              have hfw2 : ∀ t, t < n → (wr.drewN nq).frozen? ⟨blk, off + t, none⟩ = false := hfw
              clear hcw hfw HN1 HU OUT hl
              generalize wr.drewN nq = wq at HN2 hcw2 hfw2 ⊢
              go_wp2_with fail
              go_region
              have hn3 := (HN2.out.swap (i := i1) (j := i1 - 1) (by omega) (by omega) (HG.out _) (HG.out _)).drew
              obtain ⟨d1, hd1⟩ : ∃ d1, d1 = swp dk i1 (i1 - 1) := ⟨_, rfl⟩
              rw [← hd1] at hn3
              have hs1 : d1.size = n := by rw [hd1, size_swp]; exact hsk
              have HD1 := hide hd1
              have HN3 := hide hn3
              clear hn3 hd1 hcw2 hfw2 HN2 HG
              by_cases hB : 2 ≤ b - i1
              · have hBz : (2 : Int) ≤ (b : Int) - (i1 : Int) := by omega
                by_cases hA : 2 ≤ i1 - a
                · have hAz : (2 : Int) ≤ (i1 : Int) - (a : Int) := by omega
                  go_wp2
                  go_loopw [9] (fun vj wr2 => ∃ (j1 : Nat) (dj : Array Int), vj = .int .i64 j1 ∧ j1 < i1 ∧ dj.size = n ∧ Now w blk off dj wr2 ∧ shiftDown ltInt j1 dj = shiftDown ltInt (i1 - 1) d1) (fun vj _ => natOf vj)
                  case atStart => exact ⟨i1 - 1, d1, by congr 1; omega, by omega, hs1, HN3.out, rfl⟩
                  case round =>
                    obtain ⟨j1, dj, rfl, hj1, hsj, hN4, hS1⟩ := hrel
                    obtain ⟨G4, hG4, hcw4, hfw4⟩ := hN4.cells hsj
                    have HG4 := hide hG4
                    have HN4 := hide hN4
                    have HS1 := hide hS1
                    clear hG4 hN4 hS1 HN3
                    have OUT4 : Hid ((j1 = 0 ∨ ltInt dj[j1]! dj[j1 - 1]! = false) → dj = fixDown ltInt a i1 d1) := hide (fun h => by
                      unfold fixDown; rw [if_pos hA, ← HS1.out, shiftDown_stop _ _ _ h])
                    by_cases hj0 : 1 ≤ j1
                    · have hj0z : (1 : Int) ≤ (j1 : Int) := by omega
                      go_wp2_with fail
                      go_quiet (first | (go_at_call 28; refine Calls.quiet_of_same (less_u32 _ _ _)))
                      go_wp2_with fail
                      · have hl4 : ltInt (G4 j1) (G4 (j1 - 1)) = false := by
                          have : (!ltInt (G4 j1) (G4 (j1 - 1))) = true := by assumption
                          simpa using this
                        have HAX := hide (OUT4.out (Or.inr (by rw [← HG4.out, ← HG4.out]; exact hl4)))
                        have HN4q := hide (HN4.out.drewN nq)
                        clear hcw4 hfw4 HG4 HN4 HS1 OUT4 hl4
                        generalize wr.drewN nq = wq4 at HN4q ⊢
                        try go_wp2
                        go_loopw [10] (fun vj wr3 => ∃ (j2 : Nat) (d2 : Array Int), vj = .int .i64 j2 ∧ i1 < j2 ∧ j2 ≤ b ∧ d2.size = n ∧ Now w blk off d2 wr3 ∧ shiftUp ltInt b j2 d2 = shiftUp ltInt b (i1 + 1) dj) (fun vj _ => b + 1 - natOf vj)
                        case atStart => exact ⟨i1 + 1, dj, by go_num, by omega, by omega, hsj, HN4q.out, rfl⟩
                        case round =>
                          obtain ⟨j2, d2, rfl, hij2, hj2b, hs2, hN5, hS2⟩ := hrel
                          obtain ⟨G5, hG5, hcw5, hfw5⟩ := hN5.cells hs2
                          have HG5 := hide hG5
                          have HN5 := hide hN5
                          have HS2 := hide hS2
                          clear hG5 hN5 hS2
                          have OUT5 : Hid ((¬ j2 < b ∨ ltInt d2[j2]! d2[j2 - 1]! = false) → d2 = fixUp ltInt b i1 dj) := hide (fun h => by
                            unfold fixUp; rw [if_pos hB, ← HS2.out, shiftUp_stop _ _ _ _ h])
                          by_cases hjb : j2 < b
                          · have hjbz : (j2 : Int) < (b : Int) := by omega
                            go_wp2_with fail
                            go_quiet (first | (go_at_call 28; refine Calls.quiet_of_same (less_u32 _ _ _)))
                            go_wp2_with fail
                            · have hl5 : ltInt (G5 j2) (G5 (j2 - 1)) = false := by
                                have : (!ltInt (G5 j2) (G5 (j2 - 1))) = true := by assumption
                                simpa using this
                              have HBX := hide (OUT5.out (Or.inr (by rw [← HG5.out, ← HG5.out]; exact hl5)))
                              have HN6 := hide (HN5.out.drewN nq)
                              go_wp2
                              go_roundw
                              case rel =>
                                refine ⟨i1, s + 1, d2, rfl, by go_num, by omega, by omega, by omega, hs2, HN6.out, ?_⟩
                                rw [← HO.out, pi_go ltInt a b s i i1 dk (by omega) HK.out (by omega) h50, ← HD1.out, ← HAX.out, ← HBX.out]
                              case measure => simp [natOf]; omega
                            · have hl5 : ltInt (G5 j2) (G5 (j2 - 1)) = true := by
                                have : (!ltInt (G5 j2) (G5 (j2 - 1))) = false := by assumption
                                simpa using this
                              have hcw6 : ∀ t, t < n → (wr.drewN nq).cell? ⟨blk, off + t, none⟩ = some (.int .u32 (G5 t)) := hcw5
                              have hfw6 : ∀ t, t < n → (wr.drewN nq).frozen? ⟨blk, off + t, none⟩ = false := hfw5
                              have HN6 := hide (HN5.out.drewN nq)
                              clear hcw5 hfw5 HN5 OUT5
                              generalize wr.drewN nq = wq6 at hcw6 hfw6 HN6 ⊢
                              go_wp2_with fail
                              go_region
                              all_goals go_wp2
                              go_roundw
                              case rel =>
                                refine ⟨j2 + 1, swp d2 j2 (j2 - 1), by go_num, by omega, by omega, by rw [size_swp]; exact hs2, ?_, ?_⟩
                                · exact (HN6.out.swap (by omega) (by omega) (HG5.out _) (HG5.out _)).drew
                                · rw [← HS2.out, shiftUp_go ltInt b j2 d2 hjb (by rw [← HG5.out, ← HG5.out]; exact hl5)]
                              case measure => simp [natOf]; omega
                          · have hjbz : ¬ (j2 : Int) < (b : Int) := by omega
                            have HBX := hide (OUT5.out (Or.inl hjb))
                            go_wp2
                            go_roundw
                            case rel =>
                              refine ⟨i1, s + 1, d2, rfl, by go_num, by omega, by omega, by omega, hs2, HN5.out, ?_⟩
                              rw [← HO.out, pi_go ltInt a b s i i1 dk (by omega) HK.out (by omega) h50, ← HD1.out, ← HAX.out, ← HBX.out]
                            case measure => simp [natOf]; omega
                      · have hl4 : ltInt (G4 j1) (G4 (j1 - 1)) = true := by
                          have : (!ltInt (G4 j1) (G4 (j1 - 1))) = false := by assumption
                          simpa using this
                        have hcw6 : ∀ t, t < n → (wr.drewN nq).cell? ⟨blk, off + t, none⟩ = some (.int .u32 (G4 t)) := hcw4
                        have hfw6 : ∀ t, t < n → (wr.drewN nq).frozen? ⟨blk, off + t, none⟩ = false := hfw4
                        have HN6 := hide (HN4.out.drewN nq)
                        clear hcw4 hfw4 HN4 OUT4
                        generalize wr.drewN nq = wq6 at hcw6 hfw6 HN6 ⊢
                        go_wp2_with fail
                        go_region
                        all_goals go_wp2
                        go_roundw
                        case rel =>
                          refine ⟨j1 - 1, swp dj j1 (j1 - 1), by congr 1; omega, by omega, by rw [size_swp]; exact hsj, ?_, ?_⟩
                          · exact (HN6.out.swap (by omega) (by omega) (HG4.out _) (HG4.out _)).drew
                          · rw [← HS1.out, shiftDown_go ltInt j1 dj hj0 (by rw [← HG4.out, ← HG4.out]; exact hl4)]
                        case measure => simp [natOf]; omega
                    · have hj0z : ¬ (1 : Int) ≤ (j1 : Int) := by omega
                      have HAX := hide (OUT4.out (Or.inl (by omega)))
                      have HN4q := HN4
                      clear hcw4 hfw4 HG4 HN4 HS1 OUT4
                      try go_wp2
                      go_loopw [10] (fun vj wr3 => ∃ (j2 : Nat) (d2 : Array Int), vj = .int .i64 j2 ∧ i1 < j2 ∧ j2 ≤ b ∧ d2.size = n ∧ Now w blk off d2 wr3 ∧ shiftUp ltInt b j2 d2 = shiftUp ltInt b (i1 + 1) dj) (fun vj _ => b + 1 - natOf vj)
                      case atStart => exact ⟨i1 + 1, dj, by go_num, by omega, by omega, hsj, HN4q.out, rfl⟩
                      case round =>
                        obtain ⟨j2, d2, rfl, hij2, hj2b, hs2, hN5, hS2⟩ := hrel
                        obtain ⟨G5, hG5, hcw5, hfw5⟩ := hN5.cells hs2
                        have HG5 := hide hG5
                        have HN5 := hide hN5
                        have HS2 := hide hS2
                        clear hG5 hN5 hS2
                        have OUT5 : Hid ((¬ j2 < b ∨ ltInt d2[j2]! d2[j2 - 1]! = false) → d2 = fixUp ltInt b i1 dj) := hide (fun h => by
                          unfold fixUp; rw [if_pos hB, ← HS2.out, shiftUp_stop _ _ _ _ h])
                        by_cases hjb : j2 < b
                        · have hjbz : (j2 : Int) < (b : Int) := by omega
                          go_wp2_with fail
                          go_quiet (first | (go_at_call 28; refine Calls.quiet_of_same (less_u32 _ _ _)))
                          go_wp2_with fail
                          · have hl5 : ltInt (G5 j2) (G5 (j2 - 1)) = false := by
                              have : (!ltInt (G5 j2) (G5 (j2 - 1))) = true := by assumption
                              simpa using this
                            have HBX := hide (OUT5.out (Or.inr (by rw [← HG5.out, ← HG5.out]; exact hl5)))
                            have HN6 := hide (HN5.out.drewN nq)
                            go_wp2
                            go_roundw
                            case rel =>
                              refine ⟨i1, s + 1, d2, rfl, by go_num, by omega, by omega, by omega, hs2, HN6.out, ?_⟩
                              rw [← HO.out, pi_go ltInt a b s i i1 dk (by omega) HK.out (by omega) h50, ← HD1.out, ← HAX.out, ← HBX.out]
                            case measure => simp [natOf]; omega
                          · have hl5 : ltInt (G5 j2) (G5 (j2 - 1)) = true := by
                              have : (!ltInt (G5 j2) (G5 (j2 - 1))) = false := by assumption
                              simpa using this
                            have hcw6 : ∀ t, t < n → (wr.drewN nq).cell? ⟨blk, off + t, none⟩ = some (.int .u32 (G5 t)) := hcw5
                            have hfw6 : ∀ t, t < n → (wr.drewN nq).frozen? ⟨blk, off + t, none⟩ = false := hfw5
                            have HN6 := hide (HN5.out.drewN nq)
                            clear hcw5 hfw5 HN5 OUT5
                            generalize wr.drewN nq = wq6 at hcw6 hfw6 HN6 ⊢
                            go_wp2_with fail
                            go_region
                            all_goals go_wp2
                            go_roundw
                            case rel =>
                              refine ⟨j2 + 1, swp d2 j2 (j2 - 1), by go_num, by omega, by omega, by rw [size_swp]; exact hs2, ?_, ?_⟩
                              · exact (HN6.out.swap (by omega) (by omega) (HG5.out _) (HG5.out _)).drew
                              · rw [← HS2.out, shiftUp_go ltInt b j2 d2 hjb (by rw [← HG5.out, ← HG5.out]; exact hl5)]
                            case measure => simp [natOf]; omega
                        · have hjbz : ¬ (j2 : Int) < (b : Int) := by omega
                          have HBX := hide (OUT5.out (Or.inl hjb))
                          go_wp2
                          go_roundw
                          case rel =>
                            refine ⟨i1, s + 1, d2, rfl, by go_num, by omega, by omega, by omega, hs2, HN5.out, ?_⟩
                            rw [← HO.out, pi_go ltInt a b s i i1 dk (by omega) HK.out (by omega) h50, ← HD1.out, ← HAX.out, ← HBX.out]
                          case measure => simp [natOf]; omega
                · have hAz : ¬ (2 : Int) ≤ (i1 : Int) - (a : Int) := by omega
                  have HAX : Hid (d1 = fixDown ltInt a i1 d1) := hide (by unfold fixDown; rw [if_neg hA])
                  try go_wp2
                  go_loopw [10] (fun vj wr3 => ∃ (j2 : Nat) (d2 : Array Int), vj = .int .i64 j2 ∧ i1 < j2 ∧ j2 ≤ b ∧ d2.size = n ∧ Now w blk off d2 wr3 ∧ shiftUp ltInt b j2 d2 = shiftUp ltInt b (i1 + 1) d1) (fun vj _ => b + 1 - natOf vj)
                  case atStart => exact ⟨i1 + 1, d1, by go_num, by omega, by omega, hs1, HN3.out, rfl⟩
                  case round =>
                    obtain ⟨j2, d2, rfl, hij2, hj2b, hs2, hN5, hS2⟩ := hrel
                    obtain ⟨G5, hG5, hcw5, hfw5⟩ := hN5.cells hs2
                    have HG5 := hide hG5
                    have HN5 := hide hN5
                    have HS2 := hide hS2
                    clear hG5 hN5 hS2
                    have OUT5 : Hid ((¬ j2 < b ∨ ltInt d2[j2]! d2[j2 - 1]! = false) → d2 = fixUp ltInt b i1 d1) := hide (fun h => by
                      unfold fixUp; rw [if_pos hB, ← HS2.out, shiftUp_stop _ _ _ _ h])
                    by_cases hjb : j2 < b
                    · have hjbz : (j2 : Int) < (b : Int) := by omega
                      go_wp2_with fail
                      go_quiet (first | (go_at_call 28; refine Calls.quiet_of_same (less_u32 _ _ _)))
                      go_wp2_with fail
                      · have hl5 : ltInt (G5 j2) (G5 (j2 - 1)) = false := by
                          have : (!ltInt (G5 j2) (G5 (j2 - 1))) = true := by assumption
                          simpa using this
                        have HBX := hide (OUT5.out (Or.inr (by rw [← HG5.out, ← HG5.out]; exact hl5)))
                        have HN6 := hide (HN5.out.drewN nq)
                        go_wp2
                        go_roundw
                        case rel =>
                          refine ⟨i1, s + 1, d2, rfl, by go_num, by omega, by omega, by omega, hs2, HN6.out, ?_⟩
                          rw [← HO.out, pi_go ltInt a b s i i1 dk (by omega) HK.out (by omega) h50, ← HD1.out, ← HAX.out, ← HBX.out]
                        case measure => simp [natOf]; omega
                      · have hl5 : ltInt (G5 j2) (G5 (j2 - 1)) = true := by
                          have : (!ltInt (G5 j2) (G5 (j2 - 1))) = false := by assumption
                          simpa using this
                        have hcw6 : ∀ t, t < n → (wr.drewN nq).cell? ⟨blk, off + t, none⟩ = some (.int .u32 (G5 t)) := hcw5
                        have hfw6 : ∀ t, t < n → (wr.drewN nq).frozen? ⟨blk, off + t, none⟩ = false := hfw5
                        have HN6 := hide (HN5.out.drewN nq)
                        clear hcw5 hfw5 HN5 OUT5
                        generalize wr.drewN nq = wq6 at hcw6 hfw6 HN6 ⊢
                        go_wp2_with fail
                        go_region
                        all_goals go_wp2
                        go_roundw
                        case rel =>
                          refine ⟨j2 + 1, swp d2 j2 (j2 - 1), by go_num, by omega, by omega, by rw [size_swp]; exact hs2, ?_, ?_⟩
                          · exact (HN6.out.swap (by omega) (by omega) (HG5.out _) (HG5.out _)).drew
                          · rw [← HS2.out, shiftUp_go ltInt b j2 d2 hjb (by rw [← HG5.out, ← HG5.out]; exact hl5)]
                        case measure => simp [natOf]; omega
                    · have hjbz : ¬ (j2 : Int) < (b : Int) := by omega
                      have HBX := hide (OUT5.out (Or.inl hjb))
                      go_wp2
                      go_roundw
                      case rel =>
                        refine ⟨i1, s + 1, d2, rfl, by go_num, by omega, by omega, by omega, hs2, HN5.out, ?_⟩
                        rw [← HO.out, pi_go ltInt a b s i i1 dk (by omega) HK.out (by omega) h50, ← HD1.out, ← HAX.out, ← HBX.out]
                      case measure => simp [natOf]; omega
              · have hBz : ¬ (2 : Int) ≤ (b : Int) - (i1 : Int) := by omega
                by_cases hA : 2 ≤ i1 - a
                · have hAz : (2 : Int) ≤ (i1 : Int) - (a : Int) := by omega
                  go_wp2
                  go_loopw [9] (fun vj wr2 => ∃ (j1 : Nat) (dj : Array Int), vj = .int .i64 j1 ∧ j1 < i1 ∧ dj.size = n ∧ Now w blk off dj wr2 ∧ shiftDown ltInt j1 dj = shiftDown ltInt (i1 - 1) d1) (fun vj _ => natOf vj)
                  case atStart => exact ⟨i1 - 1, d1, by congr 1; omega, by omega, hs1, HN3.out, rfl⟩
                  case round =>
                    obtain ⟨j1, dj, rfl, hj1, hsj, hN4, hS1⟩ := hrel
                    obtain ⟨G4, hG4, hcw4, hfw4⟩ := hN4.cells hsj
                    have HG4 := hide hG4
                    have HN4 := hide hN4
                    have HS1 := hide hS1
                    clear hG4 hN4 hS1 HN3
                    have OUT4 : Hid ((j1 = 0 ∨ ltInt dj[j1]! dj[j1 - 1]! = false) → dj = fixDown ltInt a i1 d1) := hide (fun h => by
                      unfold fixDown; rw [if_pos hA, ← HS1.out, shiftDown_stop _ _ _ h])
                    by_cases hj0 : 1 ≤ j1
                    · have hj0z : (1 : Int) ≤ (j1 : Int) := by omega
                      go_wp2_with fail
                      go_quiet (first | (go_at_call 28; refine Calls.quiet_of_same (less_u32 _ _ _)))
                      go_wp2_with fail
                      · have hl4 : ltInt (G4 j1) (G4 (j1 - 1)) = false := by
                          have : (!ltInt (G4 j1) (G4 (j1 - 1))) = true := by assumption
                          simpa using this
                        have HAX := hide (OUT4.out (Or.inr (by rw [← HG4.out, ← HG4.out]; exact hl4)))
                        have HN4q := hide (HN4.out.drewN nq)
                        clear hcw4 hfw4 HG4 HN4 HS1 OUT4 hl4
                        generalize wr.drewN nq = wq4 at HN4q ⊢
                        have HBX : Hid (dj = fixUp ltInt b i1 dj) := hide (by unfold fixUp; rw [if_neg hB])
                        try go_wp2
                        go_roundw
                        case rel =>
                          refine ⟨i1, s + 1, dj, rfl, by go_num, by omega, by omega, by omega, hsj, HN4q.out, ?_⟩
                          rw [← HO.out, pi_go ltInt a b s i i1 dk (by omega) HK.out (by omega) h50, ← HD1.out, ← HAX.out, ← HBX.out]
                        case measure => simp [natOf]; omega
                      · have hl4 : ltInt (G4 j1) (G4 (j1 - 1)) = true := by
                          have : (!ltInt (G4 j1) (G4 (j1 - 1))) = false := by assumption
                          simpa using this
                        have hcw6 : ∀ t, t < n → (wr.drewN nq).cell? ⟨blk, off + t, none⟩ = some (.int .u32 (G4 t)) := hcw4
                        have hfw6 : ∀ t, t < n → (wr.drewN nq).frozen? ⟨blk, off + t, none⟩ = false := hfw4
                        have HN6 := hide (HN4.out.drewN nq)
                        clear hcw4 hfw4 HN4 OUT4
                        generalize wr.drewN nq = wq6 at hcw6 hfw6 HN6 ⊢
                        go_wp2_with fail
                        go_region
                        all_goals go_wp2
                        go_roundw
                        case rel =>
                          refine ⟨j1 - 1, swp dj j1 (j1 - 1), by congr 1; omega, by omega, by rw [size_swp]; exact hsj, ?_, ?_⟩
                          · exact (HN6.out.swap (by omega) (by omega) (HG4.out _) (HG4.out _)).drew
                          · rw [← HS1.out, shiftDown_go ltInt j1 dj hj0 (by rw [← HG4.out, ← HG4.out]; exact hl4)]
                        case measure => simp [natOf]; omega
                    · have hj0z : ¬ (1 : Int) ≤ (j1 : Int) := by omega
                      have HAX := hide (OUT4.out (Or.inl (by omega)))
                      have HN4q := HN4
                      clear hcw4 hfw4 HG4 HN4 HS1 OUT4
                      have HBX : Hid (dj = fixUp ltInt b i1 dj) := hide (by unfold fixUp; rw [if_neg hB])
                      try go_wp2
                      go_roundw
                      case rel =>
                        refine ⟨i1, s + 1, dj, rfl, by go_num, by omega, by omega, by omega, hsj, HN4q.out, ?_⟩
                        rw [← HO.out, pi_go ltInt a b s i i1 dk (by omega) HK.out (by omega) h50, ← HD1.out, ← HAX.out, ← HBX.out]
                      case measure => simp [natOf]; omega
                · have hAz : ¬ (2 : Int) ≤ (i1 : Int) - (a : Int) := by omega
                  have HAX : Hid (d1 = fixDown ltInt a i1 d1) := hide (by unfold fixDown; rw [if_neg hA])
                  have HBX : Hid (d1 = fixUp ltInt b i1 d1) := hide (by unfold fixUp; rw [if_neg hB])
                  try go_wp2
                  go_roundw
                  case rel =>
                    refine ⟨i1, s + 1, d1, rfl, by go_num, by omega, by omega, by omega, hs1, HN3.out, ?_⟩
                    rw [← HO.out, pi_go ltInt a b s i i1 dk (by omega) HK.out (by omega) h50, ← HD1.out, ← HAX.out, ← HBX.out]
                  case measure => simp [natOf]; omega
        · have hltz : decide ((i1 : Int) < (b : Int)) = false := decide_eq_false (by omega)
          go_quiet (first | (go_at_call 28; refine Calls.quiet_of_same (less_u32 _ _ _)))
          have HK := hide (OUT.out (Or.inl hlt))
          have HN2 := hide (HN1.out.drewN nq)
          clear hcw hfw HN1 HU OUT HG
          generalize wr.drewN nq = wq at HN2 ⊢
          have heb : ((i1 : Int) == (b : Int)) = true := by simp; omega
          go_wp2
          go_ret
          rw [← HO.out, pi_true ltInt a b s i dk (by omega) (by rw [HK.out]; omega)]
          exact ⟨rfl, HN2.out⟩
    · obtain rfl : s = 5 := by omega
      go_wp2
      go_ret
      rw [← HO.out, pi_end]
      exact ⟨rfl, HN.out⟩
end Go.Proofs.Ybulkbte
