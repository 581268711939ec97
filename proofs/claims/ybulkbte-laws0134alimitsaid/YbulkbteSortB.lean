/- slices.Sort at uint32, second part: heap sort. -/
import Derived.Test.YbulkbteSortA
namespace Go.Proofs.Ybulkbte
open Go.RowKit Go.WideShapes Go.Sort

theorem size_sift (hi F root : Nat) (d : Array Int) : (siftDown ltInt hi F root d).size = d.size := size_siftDown ltInt _ _ _ _ _ (Nat.le_refl _)

set_option maxHeartbeats 4000000 in
set_option maxRecDepth 1000000 in
theorem heap_len (blk off cap n a L : Nat) (d : Array Int) (w : World) (hn : d.size = n) (hH : Holds eU w blk off d) (hblk : blk < w.heap.size) (hL : 0 < L) (hb : a + L ≤ n) (hsz : n < 4611686018427387904) :
    Calls Yba.prog 23 #[.slice (some ⟨blk, off, none⟩) n cap, .int .i64 a, .int .i64 ((a : Int) + (L : Int))] w fun e w' => e = .returned (.tuple #[]) ∧ Now w blk off (heapPop ltInt a L (heapBuild ltInt L a ((L - 1) / 2 + 1) d)) w' := by
  have HN0 := hide (Now.refl hH hblk)
  clear hH
  have hcan : (a : Int) + (L : Int) - (a : Int) = (L : Int) := by omega
  obtain ⟨M, hM⟩ : ∃ M, M = (L - 1) / 2 + 1 := ⟨_, rfl⟩
  have hML : M ≤ L := by omega
  rw [← hM]
  go_enter Yba.func23, Yba.ntmps23
  go_wp2
  go_loopw [9] (fun v wr => ∃ (k : Nat) (dk : Array Int), v = .int .i64 ((k : Int) - 1) ∧ k ≤ M ∧ dk.size = n ∧ Now w blk off dk wr ∧ heapBuild ltInt L a k dk = heapBuild ltInt L a M d) (fun v _ => ((intOf v) + 1).toNat)
  case atStart =>
    refine ⟨M, d, ?_, Nat.le_refl _, hn, HN0.out, rfl⟩
    congr 1; omega
  case round =>
    obtain ⟨k, dk, rfl, hk, hsk, hN, hO⟩ := hrel
    have HO := hide hO
    have HN := hide hN
    clear hO hN HN0
    cases k with
    | zero =>
      go_wp2
      go_loopw [10] (fun v wr2 => ∃ (k : Nat) (dj : Array Int), v = .int .i64 ((k : Int) - 1) ∧ k ≤ L ∧ dj.size = n ∧ Now w blk off dj wr2 ∧ heapPop ltInt a k dj = heapPop ltInt a L dk) (fun v _ => ((intOf v) + 1).toNat)
      case atStart => exact ⟨L, dk, rfl, Nat.le_refl _, hsk, HN.out, rfl⟩
      case round =>
        obtain ⟨k, dj, rfl, hk2, hsj, hN2, hO2⟩ := hrel
        have HO2 := hide hO2
        clear hO2 HN
        cases k with
        | zero =>
          have HN2 := hide hN2
          clear hN2
          go_wp2
          go_end0
          refine ⟨rfl, ?_⟩
          have e1 : dk = heapBuild ltInt L a M d := HO.out
          have e2 : dj = heapPop ltInt a L dk := HO2.out
          rw [← e1, ← e2]
          exact HN2.out
        | succ k =>
          obtain ⟨G, hG, hcw, hfw⟩ := hN2.cells hsj
          have HG := hide hG
          have HN2 := hide hN2
          clear hN2 hG
          have key : ∀ wx, Now w blk off (swp dj a (a + k)) wx → Hid (Calls Yba.prog 33 #[.slice (some ⟨blk, off, none⟩) n cap, .int .i64 ((0 : Nat) : Int), .int .i64 (k : Int), .int .i64 a] wx fun e w' => e = .returned (.tuple #[]) ∧ Now w blk off (siftDown ltInt k a 0 (swp dj a (a + k))) w') := fun wx h =>
            hide ((sift_u32 blk off cap n 0 k a _ wx (by rw [size_swp]; exact hsj) h.2.1 h.2.2 (Nat.zero_le _) (by omega) hsz).mono (fun e w' ⟨h1, h2⟩ => ⟨h1, h.trans h2⟩))
          have KEY := hide key
          clear key
          rcases Nat.eq_zero_or_pos k with hk0 | hkp
          · subst hk0
            go_wp2_with fail
            go_region
            go_wp2_with fail
            refine (KEY.out _ (HN2.out.swap (i := a) (j := a + 0) (by omega) (by omega) (HG.out _) (HG.out _)).drew).out.mono ?_
            rintro e w1 ⟨rfl, hw1⟩
            have HW1 := hide hw1
            clear hw1
            go_wp2
            go_roundw
            case rel =>
              refine ⟨_, _, _, _, _, _, _, _, _, _, _, _, _, _, _, _, _, _, _, _, _, _, _, _, _, _, _, _, ?_, rfl⟩
              refine ⟨0, _, by simp, by omega, by rw [size_sift, size_swp]; exact hsj, HW1.out, ?_⟩
              rw [← HO2.out]; rfl
            case measure => simp [intOf]
          · go_wp2_with fail
            go_region
            go_wp2_with fail
            refine (KEY.out _ (HN2.out.swap (i := a) (j := a + k) (by omega) (by omega) (HG.out _) (HG.out _)).drew).out.mono ?_
            rintro e w1 ⟨rfl, hw1⟩
            have HW1 := hide hw1
            clear hw1
            go_wp2
            go_roundw
            case rel =>
              refine ⟨_, _, _, _, _, _, _, _, _, _, _, _, _, _, _, _, _, _, _, _, _, _, _, _, _, _, _, _, ?_, rfl⟩
              refine ⟨k, _, by simp, by omega, by rw [size_sift, size_swp]; exact hsj, HW1.out, ?_⟩
              rw [← HO2.out]; rfl
            case measure => simp [intOf]
    | succ k =>
      have hcall := hide ((sift_u32 blk off cap n k L a dk wr hsk HN.out.2.1 HN.out.2.2 (by omega) (by omega) hsz).mono (fun e w' ⟨h1, h2⟩ => (⟨h1, HN.out.trans h2⟩ : e = Ending.returned (.tuple #[]) ∧ Now w blk off _ w')))
      go_wp2_with fail
      refine hcall.out.mono ?_
      rintro e w1 ⟨rfl, hw1⟩
      have HW1 := hide hw1
      clear hw1 hcall
      go_wp2
      go_roundw
      case rel =>
        refine ⟨k, _, by simp, by omega, by rw [size_sift]; exact hsk, HW1.out, ?_⟩
        rw [← HO.out]; rfl
      case measure => simp [intOf]

theorem heap_u32 (blk off cap n a b : Nat) (d : Array Int) (w : World) (hn : d.size = n) (hH : Holds eU w blk off d) (hblk : blk < w.heap.size) (hab : a < b) (hb : b ≤ n) (hsz : n < 4611686018427387904) :
    Calls Yba.prog 23 #[.slice (some ⟨blk, off, none⟩) n cap, .int .i64 a, .int .i64 b] w fun e w' => e = .returned (.tuple #[]) ∧ Now w blk off (heapSort ltInt d a b) w' := by
  have h := heap_len blk off cap n a (b - a) d w hn hH hblk (by omega) (by omega) hsz
  rw [show (a : Int) + ((b - a : Nat) : Int) = (b : Int) by omega] at h
  exact h
end Go.Proofs.Ybulkbte
