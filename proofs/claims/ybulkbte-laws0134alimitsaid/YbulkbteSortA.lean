/- slices.Sort at uint32, first part: the row in memory; cmp.Less; insertion sort; reversal. -/
import Derived.Test.YbulkbteBase
import Derived.Sort.WalkC4
import Derived.Sort.WalkA6
import Derived.Sort.WalkB3
import Derived.CellFam
namespace Go.Proofs.Ybulkbte
open Go.RowKit Go.WideShapes Go.Sort

/-- A uint32 as a cell. -/
abbrev eU : Int → Value := Value.int .u32

/-- Behind w: nothing below block blk has turned, and there lies the row d. -/
def Now (w : World) (blk off : Nat) (d : Array Int) (wr : World) : Prop :=
  RowKit.Below blk w wr ∧ Holds eU wr blk off d ∧ blk < wr.heap.size

theorem Now.refl {w : World} {blk off : Nat} {d : Array Int} (h : Holds eU w blk off d) (hb : blk < w.heap.size) : Now w blk off d w := ⟨RowKit.Below.refl _ _, h, hb⟩
theorem Now.trans {w wr w1 : World} {blk off : Nat} {d d' : Array Int} (h : Now w blk off d wr) (h1 : Now wr blk off d' w1) : Now w blk off d' w1 := ⟨h.1.trans h1.1, h1.2⟩
theorem Now.drewN {w wr : World} {blk off : Nat} {d : Array Int} (h : Now w blk off d wr) (q : Nat) : Now w blk off d (wr.drewN q) :=
  ⟨⟨h.1.os, h.1.tape, h.1.output, h.1.size, h.1.block⟩, h.2.1, h.2.2⟩
theorem Now.drew {w wr : World} {blk off : Nat} {d : Array Int} (h : Now w blk off d wr) : Now w blk off d wr.drew :=
  ⟨h.1.drew, h.2.1, h.2.2⟩

theorem holds_set {w : World} {blk off : Nat} {d : Array Int} (h : Holds eU w blk off d) {i : Nat} (hi : i < d.size) (x : Int) : Holds eU (w.setCell ⟨blk, off + i, none⟩ (eU x)) blk off (d.setIfInBounds i x) := by
  intro j hj
  have hj' : j < d.size := by simpa using hj
  rw [World.frozen?_setCell]
  refine ⟨?_, (h j hj').2⟩
  by_cases e : i = j
  · subst e
    rw [getElem!_set_same _ _ _ hi]
    exact World.cell?_setCell_same _ _ _ (h i hi).1
  · rw [World.cell?_setCell_other _ _ _ _ (by first | (simp; done) | (simp; omega)), getElem!_set_other _ _ _ _ (fun h => e h.symm)]
    exact (h j hj').1

theorem Now.swap {w wr : World} {blk off : Nat} {d : Array Int} (h : Now w blk off d wr) {i j : Nat} (hi : i < d.size) (hj : j < d.size) {x y : Int} (hx : x = d[j]!) (hy : y = d[i]!) :
    Now w blk off (swp d i j) ((wr.setCell ⟨blk, off + i, none⟩ (.int .u32 x)).setCell ⟨blk, off + j, none⟩ (.int .u32 y)) := by
  subst hx; subst hy
  refine ⟨(h.1.setCell (Nat.le_refl _) _).setCell (Nat.le_refl _) _, ?_, by simpa using h.2.2⟩
  exact holds_set (holds_set h.2.1 hi _) (by simpa using hj) _

theorem Now.cells {w wr : World} {blk off : Nat} {d : Array Int} (h : Now w blk off d wr) {n : Nat} (hn : d.size = n) : ∃ G : Nat → Int, (∀ t, G t = d[t]!) ∧ (∀ t, t < n → wr.cell? ⟨blk, off + t, none⟩ = some (.int .u32 (G t))) ∧ ∀ t, t < n → wr.frozen? ⟨blk, off + t, none⟩ = false :=
  ⟨fun t => d[t]!, fun _ => rfl, fun t ht => (h.2.1 t (by omega)).1, fun t ht => (h.2.1 t (by omega)).2⟩

def natOf : Value → Nat | .int _ q => q.toNat | _ => 0

set_option maxHeartbeats 1000000 in
theorem nan_u32 (x : Int) (w : World) : Calls Yba.prog 38 #[.int .u32 x] w fun e w' => e = .returned (.bool false) ∧ w' = w := by
  go_enter Yba.func38, Yba.ntmps38
  go_wp2
  go_ret
  exact ⟨by simp, rfl⟩

set_option maxHeartbeats 1000000 in
theorem less_u32 (x y : Int) (w : World) : Calls Yba.prog 28 #[.int .u32 x, .int .u32 y] w fun e w' => e = .returned (.bool (ltInt x y)) ∧ w' = w := by
  go_enter Yba.func28, Yba.ntmps28
  go_wp2_with (go_at_call 38; refine (nan_u32 _ _).mono ?_; rintro e w' ⟨rfl, rfl⟩)
  go_ret
  exact ⟨rfl, rfl⟩

set_option maxHeartbeats 2000000 in
set_option maxRecDepth 1000000 in
theorem ins_u32 (blk off cap n a b : Nat) (d : Array Int) (w : World) (hn : d.size = n) (hH : Holds eU w blk off d) (hblk : blk < w.heap.size) (hab : a ≤ b) (hb : b ≤ n) (hsz : n < 4611686018427387904) :
    Calls Yba.prog 22 #[.slice (some ⟨blk, off, none⟩) n cap, .int .i64 a, .int .i64 b] w fun e w' => e = .returned (.tuple #[]) ∧ Now w blk off (insertionSort ltInt d a b) w' := by
  have HN0 := hide (Now.refl hH hblk)
  clear hH
  go_enter Yba.func22, Yba.ntmps22
  go_wp2
  go_loopw [6] (fun vi wr => ∃ (i : Nat) (dk : Array Int), vi = .int .i64 i ∧ a < i ∧ i ≤ b + 1 ∧ dk.size = n ∧ Now w blk off dk wr ∧ insOuter ltInt a b i dk = insertionSort ltInt d a b) (fun vi _ => b + 1 - natOf vi)
  case atStart => exact ⟨a + 1, d, by go_num, by omega, by omega, hn, HN0.out, rfl⟩
  case round =>
    obtain ⟨i, dk, rfl, hai, hib, hsk, hN, hO⟩ := hrel
    have HO := hide hO
    have HN := hide hN
    clear hO hN HN0
    by_cases hlt : i < b
    · have hltz : (i : Int) < (b : Int) := by omega
      go_wp2
      go_loopw [7] (fun vj wr2 => ∃ (j : Nat) (dj : Array Int), vj = .int .i64 j ∧ a ≤ j ∧ j ≤ i ∧ dj.size = n ∧ Now w blk off dj wr2 ∧ insInner ltInt a j dj = insInner ltInt a i dk) (fun vj _ => natOf vj)
      case atStart => exact ⟨i, dk, rfl, by omega, Nat.le_refl _, hsk, HN.out, rfl⟩
      case round =>
        obtain ⟨j, dj, rfl, haj, hji, hsj, hN2, hI⟩ := hrel
        obtain ⟨G, hG, hcw, hfw⟩ := hN2.cells hsj
        have HG := hide hG
        have HI := hide hI
        have HN2 := hide hN2
        clear hG hI hN2 HN
        have OUT : Hid ((j ≤ a ∨ ltInt dj[j]! dj[j - 1]! = false) → insOuter ltInt a b (i + 1) dj = insertionSort ltInt d a b) := hide (fun hs => by
          rw [← HO.out, insOuter_go _ _ _ _ _ hlt, ← HI.out, insInner_stop _ _ _ _ hs])
        clear hlt HO
        go_wp2
        by_cases hja : a < j
        · go_quiet (first | (go_at_call 28; refine Calls.quiet_of_same (less_u32 _ _ _)))
          go_wp2
          · have hl : ltInt (G j) (G (j - 1)) = true := by assumption
            go_region
            all_goals go_wp2
            go_roundw
            case rel =>
              refine ⟨j - 1, swp dj j (j - 1), by congr 1; omega, by omega, by omega, by rw [size_swp]; exact hsj, ?_, ?_⟩
              · exact (HN2.out.drewN (nq + 1)).swap (by omega) (by omega) (HG.out _) (HG.out _)
              · rw [← HI.out, insInner_go ltInt a j dj hja (by rw [← HG.out, ← HG.out]; exact hl)]
            case measure => simp [natOf]; omega
          · have hl : ltInt (G j) (G (j - 1)) = false := by assumption
            go_roundw
            case rel => exact ⟨i + 1, dj, by go_num, by omega, by omega, hsj, HN2.out.drewN nq, OUT.out (Or.inr (by rw [← HG.out, ← HG.out]; exact hl))⟩
            case measure => simp [natOf]; omega
        · go_quiet (first | (go_at_call 28; refine Calls.quiet_of_same (less_u32 _ _ _)))
          go_wp2
          go_roundw
          case rel => exact ⟨i + 1, dj, by go_num, by omega, by omega, hsj, HN2.out.drewN nq, OUT.out (Or.inl (by omega))⟩
          case measure => simp [natOf]; omega
    · have hge : ¬ (i : Int) < (b : Int) := by omega
      go_wp2
      go_end0
      refine ⟨rfl, ?_⟩
      rw [← HO.out, insOuter_stop _ _ _ _ _ hlt]
      exact HN.out

set_option maxHeartbeats 2000000 in
set_option maxRecDepth 1000000 in
theorem rev_u32 (blk off cap n a b : Nat) (d : Array Int) (w : World) (hn : d.size = n) (hH : Holds eU w blk off d) (hblk : blk < w.heap.size) (hab : a < b) (hb : b ≤ n) (hsz : n < 4611686018427387904) :
    Calls Yba.prog 26 #[.slice (some ⟨blk, off, none⟩) n cap, .int .i64 a, .int .i64 b] w fun e w' => e = .returned (.tuple #[]) ∧ Now w blk off (reverseRange d a b) w' := by
  have HN0 := hide (Now.refl hH hblk)
  clear hH
  go_enter Yba.func26, Yba.ntmps26
  go_wp2
  go_loopw [6, 7] (fun vi vj wr => ∃ (i j : Nat) (dk : Array Int), vi = .int .i64 i ∧ vj = .int .i64 j ∧ j < n ∧ dk.size = n ∧ Now w blk off dk wr ∧ reverseLoop i j dk = reverseRange d a b) (fun vi vj _ => natOf vj - natOf vi)
  case atStart => exact ⟨a, b - 1, d, rfl, by congr 1; omega, by omega, hn, HN0.out, rfl⟩
  case round =>
    obtain ⟨i, j, dk, rfl, rfl, hj, hsk, hN, hO⟩ := hrel
    obtain ⟨G, hG, hcw, hfw⟩ := hN.cells hsk
    have HG := hide hG
    have HO := hide hO
    have HN := hide hN
    clear hO hN HN0 hG
    by_cases hlt : i < j
    · have hltz : (i : Int) < (j : Int) := by omega
      go_wp2_with fail
      go_region
      all_goals go_wp2
      go_roundw
      case rel =>
        refine ⟨i + 1, j - 1, swp dk i j, by go_num, by congr 1; omega, by omega, by rw [size_swp]; exact hsk, ?_, ?_⟩
        · exact (HN.out.swap (by omega) (by omega) (HG.out _) (HG.out _)).drew
        · rw [← HO.out, reverseLoop.eq_def i j, if_pos hlt]
      case measure => simp [natOf]; omega
    · have hge : ¬ (i : Int) < (j : Int) := by omega
      go_wp2
      go_end0
      refine ⟨rfl, ?_⟩
      rw [← HO.out, reverseLoop.eq_def i j, if_neg hlt]
      exact HN.out

set_option maxHeartbeats 4000000 in
set_option maxRecDepth 1000000 in
theorem sift_u32 (blk off cap n lo hi first : Nat) (d : Array Int) (w : World) (hn : d.size = n) (hH : Holds eU w blk off d) (hblk : blk < w.heap.size) (hlo : lo ≤ hi) (hb : first + hi ≤ n) (hsz : n < 4611686018427387904) :
    Calls Yba.prog 33 #[.slice (some ⟨blk, off, none⟩) n cap, .int .i64 lo, .int .i64 hi, .int .i64 first] w fun e w' => e = .returned (.tuple #[]) ∧ Now w blk off (siftDown ltInt hi first lo d) w' := by
  have HN0 := hide (Now.refl hH hblk)
  clear hH
  go_enter Yba.func33, Yba.ntmps33
  go_wp2
  go_loopw [8] (fun vr wr => ∃ (root : Nat) (dk : Array Int), vr = .int .i64 root ∧ root ≤ hi ∧ dk.size = n ∧ Now w blk off dk wr ∧ siftDown ltInt hi first root dk = siftDown ltInt hi first lo d) (fun vr _ => hi - natOf vr)
  case atStart => exact ⟨lo, d, rfl, hlo, hn, HN0.out, rfl⟩
  case round =>
    obtain ⟨root, dk, rfl, hr, hsk, hN, hO⟩ := hrel
    have HO := hide hO
    clear hO HN0
    by_cases h0 : hi ≤ 2 * root + 1
    · have HN := hide hN
      clear hN
      have h0z : (hi : Int) ≤ 2 * (root : Int) + 1 := by omega
      go_wp2
      go_end0
      refine ⟨rfl, ?_⟩
      rw [← HO.out, sd_end ltInt dk h0]
      exact HN.out
    · have h0z : ¬ ((hi : Int) ≤ 2 * (root : Int) + 1) := by omega
      obtain ⟨G, hG, hcw, hfw⟩ := hN.cells hsk
      have HG := hide hG
      have HN := hide hN
      clear hN hG
      by_cases h1 : 2 * root + 2 < hi
      · have h1z : 2 * (root : Int) + 1 + 1 < (hi : Int) := by omega
        go_wp2_with fail
        go_big_quiet (first | (go_at_call 28; refine Calls.quiet_of_same (less_u32 _ _ _)))
        go_wp2_with fail
        · have hL : ltInt (G (first + (2 * root + 1))) (G (first + (2 * root + 2))) = true := by assumption
          rw [HG.out, HG.out] at hL
          revert nq; intro nq1
          have HN1 := hide (HN.out.drewN nq1)
          have hcw1 : ∀ t, t < n → (wr.drewN nq1).cell? ⟨blk, off + t, none⟩ = some (.int .u32 (G t)) := hcw
          have hfw1 : ∀ t, t < n → (wr.drewN nq1).frozen? ⟨blk, off + t, none⟩ = false := hfw
          clear hcw hfw HN
          generalize wr.drewN nq1 = wr1 at hcw1 hfw1 HN1 ⊢
          go_big_quiet (first | (go_at_call 28; refine Calls.quiet_of_same (less_u32 _ _ _)))
          go_wp2_with fail
          · have hS : ltInt (G (first + root)) (G (first + 2 * root + 2)) = false := by
              have : (!ltInt (G (first + root)) (G (first + 2 * root + 2))) = true := by assumption
              simpa using this
            rw [HG.out, HG.out] at hS
            (try simp only [Exit.inBlock, Exit.then])
            refine bodyPost_ret (results_none rfl _ _ _) rfl ?_
            refine ⟨rfl, ?_⟩
            rw [← HO.out, sd_right_stop ltInt dk h1 hL hS]
            exact HN1.out.drewN nq
          · have hS : ltInt (G (first + root)) (G (first + 2 * root + 2)) = true := by
              have : (!ltInt (G (first + root)) (G (first + 2 * root + 2))) = false := by assumption
              simpa using this
            have hcw2 : ∀ t, t < n → (wr1.drewN nq).cell? ⟨blk, off + t, none⟩ = some (.int .u32 (G t)) := hcw1
            have hfw2 : ∀ t, t < n → (wr1.drewN nq).frozen? ⟨blk, off + t, none⟩ = false := hfw1
            have HN2 := hide (HN1.out.drewN nq)
            clear hcw1 hfw1 HN1
            generalize wr1.drewN nq = wr2 at hcw2 hfw2 HN2 ⊢
            rw [HG.out, HG.out] at hS
            go_region
            go_wp2
            go_roundw
            case rel =>
              refine ⟨2 * root + 2, swp dk (first + root) (first + (2 * root + 2)), by go_num, by omega, by rw [size_swp]; exact hsk, ?_, ?_⟩
              · exact (HN2.out.swap (by omega) (by omega) (HG.out _) (HG.out _)).drew
              · rw [← HO.out, sd_right_go ltInt dk h1 hL hS]
            case measure => simp [natOf]; omega
        · have hL : ltInt (G (first + (2 * root + 1))) (G (first + (2 * root + 2))) = false := by assumption
          rw [HG.out, HG.out] at hL
          revert nq; intro nq1
          have HN1 := hide (HN.out.drewN nq1)
          have hcw1 : ∀ t, t < n → (wr.drewN nq1).cell? ⟨blk, off + t, none⟩ = some (.int .u32 (G t)) := hcw
          have hfw1 : ∀ t, t < n → (wr.drewN nq1).frozen? ⟨blk, off + t, none⟩ = false := hfw
          clear hcw hfw HN
          generalize wr.drewN nq1 = wr1 at hcw1 hfw1 HN1 ⊢
          go_big_quiet (first | (go_at_call 28; refine Calls.quiet_of_same (less_u32 _ _ _)))
          go_wp2_with fail
          · have hS : ltInt (G (first + root)) (G (first + 2 * root + 1)) = false := by
              have : (!ltInt (G (first + root)) (G (first + 2 * root + 1))) = true := by assumption
              simpa using this
            rw [HG.out, HG.out] at hS
            (try simp only [Exit.inBlock, Exit.then])
            refine bodyPost_ret (results_none rfl _ _ _) rfl ?_
            refine ⟨rfl, ?_⟩
            rw [← HO.out, sd_left_stop ltInt dk (by omega) (fun _ => hL) hS]
            exact HN1.out.drewN nq
          · have hS : ltInt (G (first + root)) (G (first + 2 * root + 1)) = true := by
              have : (!ltInt (G (first + root)) (G (first + 2 * root + 1))) = false := by assumption
              simpa using this
            have hcw2 : ∀ t, t < n → (wr1.drewN nq).cell? ⟨blk, off + t, none⟩ = some (.int .u32 (G t)) := hcw1
            have hfw2 : ∀ t, t < n → (wr1.drewN nq).frozen? ⟨blk, off + t, none⟩ = false := hfw1
            have HN2 := hide (HN1.out.drewN nq)
            clear hcw1 hfw1 HN1
            generalize wr1.drewN nq = wr2 at hcw2 hfw2 HN2 ⊢
            rw [HG.out, HG.out] at hS
            go_region
            go_wp2
            go_roundw
            case rel =>
              refine ⟨2 * root + 1, swp dk (first + root) (first + (2 * root + 1)), by go_num, by omega, by rw [size_swp]; exact hsk, ?_, ?_⟩
              · exact (HN2.out.swap (by omega) (by omega) (HG.out _) (HG.out _)).drew
              · rw [← HO.out, sd_left_go ltInt dk (by omega) (fun _ => hL) hS]
            case measure => simp [natOf]; omega
      · have h1z : decide (2 * (root : Int) + 1 + 1 < (hi : Int)) = false := decide_eq_false (by omega)
        go_wp2_with fail
        go_big_quiet (first | (go_at_call 28; refine Calls.quiet_of_same (less_u32 _ _ _)))
        go_wp2_with fail
        revert nq; intro nq1
        have HN1 := hide (HN.out.drewN nq1)
        have hcw1 : ∀ t, t < n → (wr.drewN nq1).cell? ⟨blk, off + t, none⟩ = some (.int .u32 (G t)) := hcw
        have hfw1 : ∀ t, t < n → (wr.drewN nq1).frozen? ⟨blk, off + t, none⟩ = false := hfw
        clear hcw hfw HN
        generalize wr.drewN nq1 = wr1 at hcw1 hfw1 HN1 ⊢
        go_big_quiet (first | (go_at_call 28; refine Calls.quiet_of_same (less_u32 _ _ _)))
        go_wp2_with fail
        · have hS : ltInt (G (first + root)) (G (first + 2 * root + 1)) = false := by
            have : (!ltInt (G (first + root)) (G (first + 2 * root + 1))) = true := by assumption
            simpa using this
          rw [HG.out, HG.out] at hS
          (try simp only [Exit.inBlock, Exit.then])
          refine bodyPost_ret (results_none rfl _ _ _) rfl ?_
          refine ⟨rfl, ?_⟩
          rw [← HO.out, sd_left_stop ltInt dk (by omega) (fun h => absurd h h1) hS]
          exact HN1.out.drewN nq
        · have hS : ltInt (G (first + root)) (G (first + 2 * root + 1)) = true := by
            have : (!ltInt (G (first + root)) (G (first + 2 * root + 1))) = false := by assumption
            simpa using this
          have hcw2 : ∀ t, t < n → (wr1.drewN nq).cell? ⟨blk, off + t, none⟩ = some (.int .u32 (G t)) := hcw1
          have hfw2 : ∀ t, t < n → (wr1.drewN nq).frozen? ⟨blk, off + t, none⟩ = false := hfw1
          have HN2 := hide (HN1.out.drewN nq)
          clear hcw1 hfw1 HN1
          generalize wr1.drewN nq = wr2 at hcw2 hfw2 HN2 ⊢
          rw [HG.out, HG.out] at hS
          go_region
          go_wp2
          go_roundw
          case rel =>
            refine ⟨2 * root + 1, swp dk (first + root) (first + (2 * root + 1)), by go_num, by omega, by rw [size_swp]; exact hsk, ?_, ?_⟩
            · exact (HN2.out.swap (by omega) (by omega) (HG.out _) (HG.out _)).drew
            · rw [← HO.out, sd_left_go ltInt dk (by omega) (fun h => absurd h h1) hS]
          case measure => simp [natOf]; omega
end Go.Proofs.Ybulkbte
