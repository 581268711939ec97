/- slices.Sort at uint32, third part: the pivot. -/
import Derived.Test.YbulkbteSortB
import Derived.Sort.Walk11
namespace Go.Proofs.Ybulkbte
open Go.RowKit Go.WideShapes Go.Sort

/-- The counter of swaps: the one cell of block sb. -/
def Cnt (w : World) (sb s : Nat) : Prop := w.cell? ⟨sb, 0, none⟩ = some (.int .i64 s) ∧ w.frozen? ⟨sb, 0, none⟩ = false ∧ sb < w.heap.size

theorem holds_below {w w' : World} {B blk off : Nat} {d : Array Int} (h : Holds eU w blk off d) (hb : RowKit.Below B w w') (hB : blk < B) : Holds eU w' blk off d := fun j hj =>
  ⟨by rw [hb.cell (p := ⟨blk, off + j, none⟩) hB]; exact (h j hj).1, by rw [hb.frozen (p := ⟨blk, off + j, none⟩) hB]; exact (h j hj).2⟩

theorem below_drewN {B : Nat} {a w : World} (h : RowKit.Below B a w) (q : Nat) : RowKit.Below B a (w.drewN q) := ⟨h.os, h.tape, h.output, h.size, h.block⟩

set_option maxHeartbeats 1000000 in
theorem ord_u32 (n blk off cap a b sb s : Nat) (d : Array Int) (w : World) (hn : d.size = n) (hH : Holds eU w blk off d) (hc : Cnt w sb s) (ha : a < n) (hb : b < n) (hs : s < 100) :
    Calls Yba.prog 39 #[.slice (some ⟨blk, off, none⟩) n cap, .int .i64 a, .int .i64 b, .pointer (some ⟨sb, 0, none⟩)] w fun e w' =>
      e = .returned (.tuple #[.int .i64 (order2 ltInt d a b s).1, .int .i64 (order2 ltInt d a b s).2.1]) ∧ Cnt w' sb (order2 ltInt d a b s).2.2 ∧ RowKit.Below sb w w' := by
  obtain ⟨c1, c2, c3⟩ := hc
  obtain ⟨qa, _⟩ := hH a (by omega)
  obtain ⟨qb, _⟩ := hH b (by omega)
  obtain ⟨x, hx⟩ : ∃ x, x = d[a]! := ⟨_, rfl⟩
  obtain ⟨y, hy⟩ : ∃ y, y = d[b]! := ⟨_, rfl⟩
  have HO : Hid (order2 ltInt d a b s = if ltInt y x then (b, a, s + 1) else (a, b, s)) := hide (by rw [hx, hy]; rfl)
  simp only [eU] at qa qb
  rw [← hx] at qa
  rw [← hy] at qb
  have HC3 := hide c3
  clear hx hy hH c3
  go_enter Yba.func39, Yba.ntmps39
  go_wp2_with fail
  go_quiet (first | (go_at_call 28; refine Calls.quiet_of_same (less_u32 _ _ _)))
  go_wp2_with fail
  · have hl : ltInt y x = true := by assumption
    go_wp2
    go_ret2
    rw [HO.out, if_pos hl]
    refine ⟨rfl, ⟨?_, ?_, ?_⟩, ?_⟩
    · refine World.cell?_setCell_same _ _ _ (u := .int .i64 s) ?_
      exact c1
    · rw [World.frozen?_setCell]; exact c2
    · simpa using HC3.out
    · exact RowKit.Below.setCell (p := ⟨sb, 0, none⟩) (below_drewN (RowKit.Below.refl sb w) nq) (Nat.le_refl _) _
  · have hl : ltInt y x = false := by assumption
    go_wp2
    go_ret2
    rw [HO.out, hl]
    exact ⟨rfl, ⟨c1, c2, HC3.out⟩, below_drewN (RowKit.Below.refl _ _) _⟩

/-- What a function that looks for the pivot leaves. -/
def Looked (w : World) (sb : Nat) (r : Nat × Nat) (e : Ending) (w' : World) : Prop := e = .returned (.int .i64 r.1) ∧ Cnt w' sb r.2 ∧ RowKit.Below sb w w'

set_option maxHeartbeats 1000000 in
theorem med_u32 (n blk off cap a b c sb s : Nat) (d : Array Int) (w : World) (hn : d.size = n) (hH : Holds eU w blk off d) (hsb : blk < sb) (hc : Cnt w sb s) (ha : a < n) (hb : b < n) (hcn : c < n) (hs : s < 90) :
    Calls Yba.prog 37 #[.slice (some ⟨blk, off, none⟩) n cap, .int .i64 a, .int .i64 b, .int .i64 c, .pointer (some ⟨sb, 0, none⟩)] w fun e w' => Looked w sb (median ltInt d a b c s) e w' := by
  have l1 := order2_lt d s ha hb
  have s1 := order2_swaps d a b s
  have h1 := hide (ord_u32 n blk off cap a b sb s d w hn hH hc ha hb (by omega))
  have HM : Hid (median ltInt d a b c s = ((order2 ltInt d (order2 ltInt d a b s).1 (order2 ltInt d (order2 ltInt d a b s).2.1 c (order2 ltInt d a b s).2.2).1 (order2 ltInt d (order2 ltInt d a b s).2.1 c (order2 ltInt d a b s).2.2).2.2).2.1, (order2 ltInt d (order2 ltInt d a b s).1 (order2 ltInt d (order2 ltInt d a b s).2.1 c (order2 ltInt d a b s).2.2).1 (order2 ltInt d (order2 ltInt d a b s).2.1 c (order2 ltInt d a b s).2.2).2.2).2.2)) := hide rfl
  generalize order2 ltInt d a b s = r1 at l1 s1 h1 HM
  obtain ⟨p1, q1, t1⟩ := r1
  simp only at l1 s1 h1 HM
  have HH := hide hH
  clear hc hH
  go_enter Yba.func37, Yba.ntmps37
  go_wp2_with fail
  refine h1.out.mono ?_
  rintro e w1 ⟨rfl, hc1, hb1⟩
  have l2 := order2_lt d t1 l1.2 hcn
  have s2 := order2_swaps d q1 c t1
  have h2 := hide (ord_u32 n blk off cap q1 c sb t1 d w1 hn (holds_below HH.out hb1 hsb) hc1 l1.2 hcn (by omega))
  generalize order2 ltInt d q1 c t1 = r2 at l2 s2 h2 HM
  obtain ⟨p2, q2, t2⟩ := r2
  simp only at l2 s2 h2 HM
  have HB1 := hide hb1
  clear hc1 hb1 h1
  go_wp2_with fail
  refine h2.out.mono ?_
  rintro e w2 ⟨rfl, hc2, hb2⟩
  have h3 := hide (ord_u32 n blk off cap p1 p2 sb t2 d w2 hn (holds_below HH.out (HB1.out.trans hb2) hsb) hc2 l1.1 l2.1 (by omega))
  generalize order2 ltInt d p1 p2 t2 = r3 at h3 HM
  obtain ⟨p3, q3, t3⟩ := r3
  simp only at h3 HM
  have HB2 := hide (HB1.out.trans hb2)
  clear hc2 hb2 h2
  go_wp2_with fail
  refine h3.out.mono ?_
  rintro e w3 ⟨rfl, hc3, hb3⟩
  have HC3 := hide hc3
  have HB3 := hide (HB2.out.trans hb3)
  clear hc3 hb3 h3
  go_wp2
  go_ret
  unfold Looked
  rw [HM.out]
  exact ⟨rfl, HC3.out, HB3.out⟩

set_option maxHeartbeats 1000000 in
theorem adj_u32 (n blk off cap a sb s : Nat) (d : Array Int) (w : World) (hn : d.size = n) (hH : Holds eU w blk off d) (hsb : blk < sb) (hc : Cnt w sb s) (h0 : 0 < a) (ha : a + 1 < n) (hs : s < 90) (hsz : n < 4611686018427387904) :
    Calls Yba.prog 36 #[.slice (some ⟨blk, off, none⟩) n cap, .int .i64 a, .pointer (some ⟨sb, 0, none⟩)] w fun e w' => Looked w sb (medianAdjacent ltInt d a s) e w' := by
  have h := med_u32 n blk off cap (a - 1) a (a + 1) sb s d w hn hH hsb hc (by omega) (by omega) ha hs
  rw [show ((a - 1 : Nat) : Int) = (a : Int) - 1 by omega, show ((a + 1 : Nat) : Int) = (a : Int) + 1 by omega] at h
  have HM := hide h
  clear h hH hc
  go_enter Yba.func36, Yba.ntmps36
  go_wp2_with fail
  refine HM.out.mono ?_
  rintro e w3 ⟨rfl, hc3, hb3⟩
  have HC3 := hide hc3
  have HB3 := hide hb3
  clear hc3 hb3 HM
  go_wp2
  go_ret
  exact ⟨rfl, HC3.out, HB3.out⟩

theorem median_lt (d : Array Int) {a b c n : Nat} (s : Nat) (ha : a < n) (hb : b < n) (hc : c < n) : (median ltInt d a b c s).1 < n ∧ (median ltInt d a b c s).2 ≤ s + 3 := by
  have l1 := order2_lt d s ha hb
  have s1 := order2_swaps d a b s
  have l2 := order2_lt d (order2 ltInt d a b s).2.2 l1.2 hc
  have s2 := order2_swaps d (order2 ltInt d a b s).2.1 c (order2 ltInt d a b s).2.2
  have l3 := order2_lt d (order2 ltInt d (order2 ltInt d a b s).2.1 c (order2 ltInt d a b s).2.2).2.2 l1.1 l2.1
  have s3 := order2_swaps d (order2 ltInt d a b s).1 (order2 ltInt d (order2 ltInt d a b s).2.1 c (order2 ltInt d a b s).2.2).1 (order2 ltInt d (order2 ltInt d a b s).2.1 c (order2 ltInt d a b s).2.2).2.2
  unfold median
  exact ⟨l3.2, by simp only; omega⟩

def hintFor (s : Nat) : Hint := if s = 0 then .increasing else if s = 12 then .decreasing else .unknown

set_option maxHeartbeats 4000000 in
set_option maxRecDepth 100000 in
theorem pivot_len (n blk off cap a L : Nat) (d : Array Int) (w : World) (hn : d.size = n) (hH : Holds eU w blk off d) (hblk : blk < w.heap.size) (hL : 0 < L) (hb : a + L ≤ n) (hsz : n < 4611686018427387904) :
    Calls Yba.prog 25 #[.slice (some ⟨blk, off, none⟩) n cap, .int .i64 a, .int .i64 ((a : Int) + (L : Int))] w fun e w' =>
      e = .returned (.tuple #[.int .i64 (choosePivot ltInt d a (a + L)).1, .int .i64 (hintCode (choosePivot ltInt d a (a + L)).2)]) ∧ RowKit.Below w.heap.size w w' := by
  have hcan : (a : Int) + (L : Int) - (a : Int) = (L : Int) := by omega
  have HB0 : Hid (RowKit.Below w.heap.size w (w.alloc (.cells #[.int .i64 0] 3))) := hide ((RowKit.Below.refl _ w).alloc (Nat.le_refl _) _)
  have hc0 : Cnt (w.alloc (.cells #[.int .i64 0] 3)) w.heap.size 0 := ⟨by simp, by
    have e : (w.alloc (.cells #[.int .i64 0] 3)).heap[w.heap.size]? = some (.cells #[.int .i64 0] 3 (0, 0)) := by exact Array.getElem?_push_size
    unfold World.frozen?
    rw [e]
    rfl, by simp⟩
  have HC0 := hide hc0
  have HH := hide (holds_below hH HB0.out hblk)
  clear hH hc0
  have e1 : a + L - a = L := by omega
  by_cases h8 : 8 ≤ L
  · have h8z : (8 : Int) ≤ (L : Int) := by omega
    by_cases h50 : 50 ≤ L
    · have h50z : (50 : Int) ≤ (L : Int) := by omega
      have CH0 : Hid (choosePivot ltInt d a (a + L) = ((median ltInt d (medianAdjacent ltInt d (a + (L / 4)) 0).1 (medianAdjacent ltInt d (a + (L / 4) * 2) (medianAdjacent ltInt d (a + (L / 4)) 0).2).1 (medianAdjacent ltInt d (a + (L / 4) * 3) (medianAdjacent ltInt d (a + (L / 4) * 2) (medianAdjacent ltInt d (a + (L / 4)) 0).2).2).1 (medianAdjacent ltInt d (a + (L / 4) * 3) (medianAdjacent ltInt d (a + (L / 4) * 2) (medianAdjacent ltInt d (a + (L / 4)) 0).2).2).2).1,
          hintFor (median ltInt d (medianAdjacent ltInt d (a + (L / 4)) 0).1 (medianAdjacent ltInt d (a + (L / 4) * 2) (medianAdjacent ltInt d (a + (L / 4)) 0).2).1 (medianAdjacent ltInt d (a + (L / 4) * 3) (medianAdjacent ltInt d (a + (L / 4) * 2) (medianAdjacent ltInt d (a + (L / 4)) 0).2).2).1 (medianAdjacent ltInt d (a + (L / 4) * 3) (medianAdjacent ltInt d (a + (L / 4) * 2) (medianAdjacent ltInt d (a + (L / 4)) 0).2).2).2).2)) := hide (by
        unfold choosePivot hintFor
        simp only [e1, if_pos h8, if_pos h50, Nat.mul_one, ge_iff_le])
      have k1 := hide (adj_u32 n blk off cap (a + (L / 4)) w.heap.size 0 d _ hn HH.out hblk HC0.out (by omega) (by omega) (by omega) hsz)
      have m1 := median_lt (n := n) d (a := a + (L / 4) - 1) (b := a + (L / 4)) (c := a + (L / 4) + 1) 0 (by omega) (by omega) (by omega)
      change (medianAdjacent ltInt d (a + (L / 4)) 0).1 < n ∧ (medianAdjacent ltInt d (a + (L / 4)) 0).2 ≤ 0 + 3 at m1
      generalize medianAdjacent ltInt d (a + (L / 4)) 0 = r1 at k1 m1 CH0
      obtain ⟨p1, t1⟩ := r1
      simp only at m1 CH0
      have k1' := k1.out
      rw [show ((a + (L / 4) : Nat) : Int) = (a : Int) + (L : Int) / 4 by omega] at k1'
      have K1 := hide k1'
      clear k1 k1'
      go_enter Yba.func25, Yba.ntmps25
      go_wp2_with fail
      refine K1.out.mono ?_
      rintro e w1 ⟨rfl, hc1, hb1⟩
      have hbb1 := HB0.out.trans hb1
      have k2 := adj_u32 n blk off cap (a + (L / 4) * 2) w.heap.size t1 d w1 hn (holds_below HH.out hb1 hblk) hblk hc1 (by omega) (by omega) (by omega) hsz
      have m2 := median_lt (n := n) d (a := a + (L / 4) * 2 - 1) (b := a + (L / 4) * 2) (c := a + (L / 4) * 2 + 1) t1 (by omega) (by omega) (by omega)
      change (medianAdjacent ltInt d (a + (L / 4) * 2) t1).1 < n ∧ (medianAdjacent ltInt d (a + (L / 4) * 2) t1).2 ≤ t1 + 3 at m2
      generalize medianAdjacent ltInt d (a + (L / 4) * 2) t1 = r2 at k2 m2 CH0
      obtain ⟨p2, t2⟩ := r2
      simp only at m2 CH0
      rw [show ((a + (L / 4) * 2 : Nat) : Int) = (a : Int) + (L : Int) / 4 * 2 by omega] at k2
      have K2 := hide k2
      have HB1 := hide hb1
      have HBB1 := hide hbb1
      clear k2 hb1 hc1 K1 hbb1
      go_wp2_with fail
      refine K2.out.mono ?_
      rintro e w2 ⟨rfl, hc2, hb2⟩
      have hbb2 := HBB1.out.trans hb2
      have hx2 := HB1.out.trans hb2
      have k3 := adj_u32 n blk off cap (a + (L / 4) * 3) w.heap.size t2 d w2 hn (holds_below HH.out hx2 hblk) hblk hc2 (by omega) (by omega) (by omega) hsz
      have m3 := median_lt (n := n) d (a := a + (L / 4) * 3 - 1) (b := a + (L / 4) * 3) (c := a + (L / 4) * 3 + 1) t2 (by omega) (by omega) (by omega)
      change (medianAdjacent ltInt d (a + (L / 4) * 3) t2).1 < n ∧ (medianAdjacent ltInt d (a + (L / 4) * 3) t2).2 ≤ t2 + 3 at m3
      generalize medianAdjacent ltInt d (a + (L / 4) * 3) t2 = r3 at k3 m3 CH0
      obtain ⟨p3, t3⟩ := r3
      simp only at m3 CH0
      rw [show ((a + (L / 4) * 3 : Nat) : Int) = (a : Int) + (L : Int) / 4 * 3 by omega] at k3
      have K3 := hide k3
      have HX2 := hide hx2
      have HBB2 := hide hbb2
      clear k3 hb2 hc2 K2 hbb2 hx2 HB1 HBB1
      go_wp2_with fail
      refine K3.out.mono ?_
      rintro e w3 ⟨rfl, hc3, hb3⟩
      have k4 := med_u32 n blk off cap p1 p2 p3 w.heap.size t3 d w3 hn (holds_below HH.out (HX2.out.trans hb3) hblk) hblk hc3 m1.1 m2.1 m3.1 (by omega)
      have HBB3 := hide (HBB2.out.trans hb3)
      generalize median ltInt d p1 p2 p3 t3 = rr at k4 CH0
      have K4 := hide k4
      clear k4 hb3 hc3 K3 HX2 HBB2
      go_wp2_with fail
      refine K4.out.mono ?_
      rintro e w4 ⟨rfl, ⟨c1, c2, c3⟩, hb4⟩
      have HBF := hide (HBB3.out.trans hb4)
      have CH := CH0
      unfold hintFor at CH
      clear hb4 K4 HBB3
      have hval := CH.out
      by_cases z0 : rr.2 = 0
      · have z0b : ((rr.2 : Int) == 0) = true := by simp; omega
        rw [z0] at c1
        go_wp2
        go_ret2
        rw [hval, if_pos z0]
        exact ⟨rfl, HBF.out⟩
      · have z0b : ((rr.2 : Int) == 0) = false := by simp; omega
        by_cases z12 : rr.2 = 12
        · have z12b : ((rr.2 : Int) == 12) = true := by simp; omega
          rw [z12] at c1
          go_wp2
          go_ret2
          rw [hval, if_neg z0, if_pos z12]
          exact ⟨rfl, HBF.out⟩
        · have z12b : ((rr.2 : Int) == 12) = false := by simp; omega
          go_wp2
          go_ret2
          rw [hval, if_neg z0, if_neg z12]
          exact ⟨rfl, HBF.out⟩
    · have h50z : ¬ (50 : Int) ≤ (L : Int) := by omega
      have CH0 : Hid (choosePivot ltInt d a (a + L) = ((median ltInt d (a + (L / 4)) (a + (L / 4) * 2) (a + (L / 4) * 3) 0).1, hintFor (median ltInt d (a + (L / 4)) (a + (L / 4) * 2) (a + (L / 4) * 3) 0).2)) := hide (by
        unfold choosePivot hintFor
        simp only [e1, if_pos h8, if_neg h50, Nat.mul_one, ge_iff_le])
      have k4 := med_u32 n blk off cap (a + (L / 4)) (a + (L / 4) * 2) (a + (L / 4) * 3) w.heap.size 0 d _ hn HH.out hblk HC0.out (by omega) (by omega) (by omega) (by omega)
      generalize median ltInt d (a + (L / 4)) (a + (L / 4) * 2) (a + (L / 4) * 3) 0 = rr at k4 CH0
      rw [show ((a + (L / 4) : Nat) : Int) = (a : Int) + (L : Int) / 4 by omega, show ((a + (L / 4) * 2 : Nat) : Int) = (a : Int) + (L : Int) / 4 * 2 by omega, show ((a + (L / 4) * 3 : Nat) : Int) = (a : Int) + (L : Int) / 4 * 3 by omega] at k4
      have K4 := hide k4
      clear k4
      go_enter Yba.func25, Yba.ntmps25
      go_wp2_with fail
      refine K4.out.mono ?_
      rintro e w4 ⟨rfl, ⟨c1, c2, c3⟩, hb4⟩
      have HBF := hide (HB0.out.trans hb4)
      have CH := CH0
      unfold hintFor at CH
      clear hb4 K4
      have hval := CH.out
      by_cases z0 : rr.2 = 0
      · have z0b : ((rr.2 : Int) == 0) = true := by simp; omega
        rw [z0] at c1
        go_wp2
        go_ret2
        rw [hval, if_pos z0]
        exact ⟨rfl, HBF.out⟩
      · have z0b : ((rr.2 : Int) == 0) = false := by simp; omega
        by_cases z12 : rr.2 = 12
        · have z12b : ((rr.2 : Int) == 12) = true := by simp; omega
          rw [z12] at c1
          go_wp2
          go_ret2
          rw [hval, if_neg z0, if_pos z12]
          exact ⟨rfl, HBF.out⟩
        · have z12b : ((rr.2 : Int) == 12) = false := by simp; omega
          go_wp2
          go_ret2
          rw [hval, if_neg z0, if_neg z12]
          exact ⟨rfl, HBF.out⟩
  · have h8z : ¬ (8 : Int) ≤ (L : Int) := by omega
    have CH : Hid (choosePivot ltInt d a (a + L) = (a + (L / 4) * 2, .increasing)) := hide (by
      unfold choosePivot
      simp only [e1, if_neg h8, Nat.mul_one, ge_iff_le, if_true])
    go_enter Yba.func25, Yba.ntmps25
    go_wp2
    go_ret2
    rw [CH.out]
    refine ⟨by simp [hintCode], HB0.out⟩

theorem pivot_u32 (n blk off cap a b : Nat) (d : Array Int) (w : World) (hn : d.size = n) (hH : Holds eU w blk off d) (hblk : blk < w.heap.size) (hab : a < b) (hb : b ≤ n) (hsz : n < 4611686018427387904) :
    Calls Yba.prog 25 #[.slice (some ⟨blk, off, none⟩) n cap, .int .i64 a, .int .i64 b] w fun e w' =>
      e = .returned (.tuple #[.int .i64 (choosePivot ltInt d a b).1, .int .i64 (hintCode (choosePivot ltInt d a b).2)]) ∧ RowKit.Below w.heap.size w w' := by
  have h := pivot_len n blk off cap a (b - a) d w hn hH hblk (by omega) (by omega) hsz
  rw [show (a : Int) + ((b - a : Nat) : Int) = (b : Int) by omega, show a + (b - a) = b by omega] at h
  exact h
end Go.Proofs.Ybulkbte
