/- slices.Values, slices.AppendSeq, slices.Collect at labels. -/
import Derived.Test.YbulkbsqFmtSort
import Derived.RangeFuncNested
import Derived.RangeFuncBound
import Derived.RangeFuncCalls
import Derived.RangeFuncLeaves
import Derived.RangeFuncBox
import Derived.Shelf.Abstract
import Derived.Shelf.RegionOpen
import Derived.OwnWalkIn
import Derived.TacticsInMore
import Derived.LoopNIn
import Derived.LoopIn
import Derived.Maps.AppendAt
namespace Go.Proofs.YbulkbsqFmt
open Go.RowKit Go.Shelf Go.WideShapes

attribute [local go_sem] Oper.semAt_some

set_option maxRecDepth 100000 in
set_option maxHeartbeats 2000000 in
theorem values1_in (F : Fence) (n : Nat) (h17 : F.fn 17) (hro : F.round = none) (hn : 1 ≤ n) (l Bs n₀ b off len cap : Nat) (ls : List Lb) (hlen : ls.length = len) (hle : len ≤ 1024) (hb : b < n₀) (J Jx : List Lb → World → Prop)
    (hY : ∀ pre x W, J pre W → pre.length < len → YieldAt F (n - 1) Ybaf.prog l #[.agg #[.string x.1, .string x.2]] W fun e W' =>
      (e = .returned (.bool true) ∧ J (pre ++ [x]) W' ∧ Below n₀ W W') ∨ (e = .returned (.bool false) ∧ Jx (pre ++ [x]) W'))
    (W : World) (hn₀ : n₀ ≤ W.heap.size) (hJ : AbidesFrom W.heap.size J) (hBs : W.cell? ⟨Bs, 0, none⟩ = some (.slice (some ⟨b, off, none⟩) len cap))
    (hc : ∀ i, i < len → W.cell? ⟨b, off + i * 2, none⟩ = some (.string (ls.getD i noL).1) ∧ W.cell? ⟨b, off + i * 2 + 1, none⟩ = some (.string (ls.getD i noL).2)) (h0 : J [] W) :
    CallsIn F n Ybaf.prog 17 #[.func (.yield l) #[] #[], .pointer (some ⟨Bs, 0, none⟩)] W fun e W' => (∃ v, e = .returned v) ∧
      ((∃ ys, ys = ls ∧ J ys W') ∨ (∃ pre, pre <+: ls ∧ Jx pre W')) := by
  have HC := hide hc
  clear hc
  refine callsIn_of_wp Ybaf.func17 rfl h17 ?_ hro
  simp only [Ybaf.ntmps17, List.size_toArray, List.length_cons, List.length_nil, Nat.reduceAdd, Nat.reduceSub, Array.replicate_succ, Array.replicate_zero, List.push_toArray, List.append_toArray, List.nil_append, List.cons_append]
  gi_wp2
  gi_loopw [7] (fun i wr => ∃ k : Nat, k ≤ len ∧ i = .int .i64 k ∧ J (ls.take k) wr ∧ Below n₀ W wr) (fun i _ => len - (intOf i).toNat)
  case atStart => exact ⟨0, Nat.zero_le _, rfl, h0, Below.refl _ _⟩
  case round =>
    obtain ⟨k, hk, rfl, hJs, hnx⟩ := hrel
    by_cases hlt : k < len
    · obtain ⟨q0, q1⟩ := HC.out k hlt
      have r0 := hnx.cell (p := ⟨b, off + k * 2, none⟩) hb
      rw [q0] at r0
      have r1 := hnx.cell (p := ⟨b, off + k * 2 + 1, none⟩) hb
      rw [q1] at r1
      obtain ⟨x, hx⟩ : ∃ x, x = ls.getD k noL := ⟨_, rfl⟩
      rw [← hx] at r0 r1
      have HTK : Hid (ls.take (k + 1) = ls.take k ++ [x]) := hide (by
        rw [List.take_succ_eq_append_getElem (by omega), hx]
        simp [show k < ls.length by omega])
      have hJ2 : J (ls.take k) (wr.alloc (.cells #[.string x.1, .string x.2] 26)) := hJ _ wr _ none hJs (World.grownBy_alloc wr _ none) (fun r e => by cases e)
      obtain ⟨fn, tmps, assign, body, hy, hR⟩ := hY _ x _ hJ2 (by simp; omega)
      have hws := hnx.size
      have HNX := hide hnx
      clear hx q0 q1 hnx hJs hJ2
      gi_wp2
      refine hR.mono ?_
      rintro e W3 (⟨rfl, hJ3, hk3⟩ | ⟨rfl, hJx3⟩)
      · gi_wp2
        go_roundw
        case rel => exact ⟨k + 1, by omega, by go_num, by rw [HTK.out]; exact hJ3, (HNX.out.alloc (by omega) _).trans hk3⟩
        case measure => simp [intOf]; omega
      · gi_wp2
        refine bodyPost_ret (results_none rfl _ _ _) rfl ?_
        exact ⟨⟨_, rfl⟩, .inr ⟨_, by rw [← HTK.out]; exact List.take_prefix _ _, hJx3⟩⟩
    · obtain rfl : k = len := by omega
      gi_wp2
      go_end0
      exact ⟨⟨_, rfl⟩, .inl ⟨_, List.take_of_length_le (by omega), hJs⟩⟩

set_option maxRecDepth 100000 in
set_option maxHeartbeats 1000000 in
theorem values1_zero (F : Fence) (n : Nat) (h17 : F.fn 17) (hro : F.round = none) (l Bs cap : Nat) (a : Option Addr) (J : List Lb → World → Prop) (W : World) (hBs : W.cell? ⟨Bs, 0, none⟩ = some (.slice a 0 cap)) (h0 : J [] W) :
    CallsIn F n Ybaf.prog 17 #[.func (.yield l) #[] #[], .pointer (some ⟨Bs, 0, none⟩)] W fun e W' => (∃ v, e = .returned v) ∧ J [] W' := by
  refine callsIn_of_wp Ybaf.func17 rfl h17 ?_ hro
  simp only [Ybaf.ntmps17, List.size_toArray, List.length_cons, List.length_nil, Nat.reduceAdd, Nat.reduceSub, Array.replicate_succ, Array.replicate_zero, List.push_toArray, List.append_toArray, List.nil_append, List.cons_append]
  gi_wp2
  gi_loopw [7] (fun i wr => i = .int .i64 0 ∧ J [] wr) (fun _ _ => 0)
  case atStart => exact ⟨rfl, h0⟩
  case round =>
    obtain ⟨rfl, hJs⟩ := hrel
    gi_wp2
    go_end0
    exact ⟨⟨_, rfl⟩, hJs⟩

theorem LabRow.same {ok : Nat → Prop} {B : Nat} {w w' : World} {a : Option Addr} {n : Nat} {ls : List Lb} (h : LabRow ok w a n ls) (hb : Below B w w') (hok : ∀ k, ok k → k < B) : LabRow ok w' a n ls := by
  refine ⟨h.1, ?_⟩
  rcases h.2 with h0 | ⟨b, off, hx, ho, hc⟩
  · exact .inl h0
  · refine .inr ⟨b, off, hx, ho, fun i hi => ?_⟩
    obtain ⟨c0, c1⟩ := hc i hi
    exact ⟨by rw [hb.cell (p := ⟨b, off + i * 2, none⟩) (hok b ho)]; exact c0, by rw [hb.cell (p := ⟨b, off + i * 2 + 1, none⟩) (hok b ho)]; exact c1⟩

/-- slices.Values(s) hands back an iterator over the labels of s. -/
theorem values_stops (F : Fence) (n : Nat) (h17 : F.fn 17) (hro : F.round = none) (hn : 1 ≤ n) (Bs n₀ cap len : Nat) (a : Option Addr) (ls : List Lb) (w : World) (hle : len ≤ 1024) (hBs : Bs < w.heap.size) (hn₀ : n₀ ≤ w.heap.size)
    (hc : w.cell? ⟨Bs, 0, none⟩ = some (.slice a len cap)) (hI : LabRow (· < n₀) w a len ls) :
    SeqStopsK F n Ybaf.prog 17 #[.pointer (some ⟨Bs, 0, none⟩)] (fun x : Lb => #[Value.agg #[.string x.1, .string x.2]]) (Below n₀) (fun ys => ys = ls) (fun pre => pre <+: ls) ls.length w := fun l J Jx W hW hJ _ hY h0 => by
  have hc' := (hW.cell (p := ⟨Bs, 0, none⟩) hBs).trans hc
  have hI' := hI.same (hW.mono hn₀) (fun _ h => h)
  have hl := hI'.1
  by_cases h0' : len = 0
  · subst h0'
    have : ls = [] := List.eq_nil_of_length_eq_zero hl
    subst this
    exact (values1_zero F n h17 hro l Bs cap a J W hc' h0).mono fun e W' ⟨he, hj⟩ => ⟨he, .inl ⟨_, rfl, hj⟩⟩
  · rcases hI'.2 with h | ⟨b, off, rfl, hb, hcs⟩
    · exact absurd h h0'
    · subst hl
      exact values1_in F n h17 hro hn l Bs n₀ b off ls.length cap ls rfl hle hb J Jx hY W (Nat.le_trans hn₀ hW.size) hJ hc' hcs h0

set_option maxHeartbeats 1000000 in
theorem values_in (F : Fence) (n : Nat) (h7 : F.fn 7) (hro : F.round = none) (a : Option Addr) (len cap : Nat) (w : World) :
    CallsIn F n Ybaf.prog 7 #[.slice a len cap] w fun e w' => e = .returned (.func (.func 17) #[] #[.pointer (some ⟨w.heap.size, 0, none⟩)]) ∧ w' = w.alloc (.cells #[.slice a len cap] 23) := by
  refine callsIn_of_wp Ybaf.func7 rfl h7 ?_ hro
  simp only [Ybaf.ntmps7, List.size_toArray, List.length_cons, List.length_nil, Nat.reduceAdd, Nat.reduceSub, Array.replicate_succ, Array.replicate_zero, List.push_toArray, List.append_toArray, List.nil_append, List.cons_append]
  gi_wp2
  go_ret
  exact ⟨rfl, rfl⟩

set_option maxRecDepth 100000 in
set_option maxHeartbeats 4000000 in
/-- slices.AppendSeq(nil, seq) over such an iterator. -/
theorem appendSeq_in (F : Fence) (n : Nat) (h21 : F.fn 21) (h17 : F.fn 17) (hro : F.round = none) (hn : 3 ≤ n) (Bs cap len : Nat) (a : Option Addr) (ls : List Lb) (w : World) (hle : len ≤ 1024) (hBs : Bs < w.heap.size)
    (hc : w.cell? ⟨Bs, 0, none⟩ = some (.slice a len cap)) (hI : LabRow (· < w.heap.size) w a len ls) :
    CallsIn F n Ybaf.prog 21 #[.slice none 0 0, .func (.func 17) #[] #[.pointer (some ⟨Bs, 0, none⟩)]] w fun e W' => ∃ v, e = .returned v ∧ W'.ownsRow w.heap.size 26 2 v ls.length (labCells ls) ∧ (v = .slice none 0 0 ↔ ls = []) ∧ Below w.heap.size w W' := by
  have h1 : 1 ≤ n := by omega
  refine callsIn_of_wp_marks Ybaf.func21 rfl h21 ?_ hro
  simp only [Ybaf.ntmps21, List.size_toArray, List.length_cons, List.length_nil, Nat.reduceAdd, Nat.reduceSub, Array.replicate_succ, Array.replicate_zero, List.push_toArray, List.append_toArray, List.nil_append, List.cons_append]
  gi_wp2
  have hsz : (w.alloc (.cells #[.slice none 0 0] 23)).heap.size = w.heap.size + 1 := by simp
  have hB0 : Below w.heap.size w (w.alloc (.cells #[.slice none 0 0] 23)) := (Below.refl _ w).alloc (Nat.le_refl _) _
  have bS := Boxed.new w 23 (.slice none 0 0)
  have hc0 : (w.alloc (.cells #[.slice none 0 0] 23)).cell? ⟨Bs, 0, none⟩ = some (.slice a len cap) := by rw [hB0.cell hBs]; exact hc
  have hI0 := hI.below hB0 (Nat.le_refl _)
  have hll := hI.1
  obtain ⟨i0, hi, hz0, hz1, hz2⟩ := info_parts Ybaf.info26
  obtain ⟨W0, hW0⟩ : ∃ W0, w.alloc (.cells #[.slice none 0 0] 23) = W0 := ⟨_, rfl⟩
  rw [hW0] at hsz hB0 bS hc0 hI0 ⊢
  clear hW0 hI hc
  refine wpIn_rangeFunc_ownH hro h1 (gf := 17) (lb := #[.pointer (some ⟨Bs, 0, none⟩)]) rfl h17 (enters_of Ybaf.func17 (by kernel_rfl) rfl)
    (values_stops F (n - 1) h17 hro (by omega) Bs w.heap.size cap len a ls W0 hle (by omega) (by omega) hc0 hI0) belowK_t (belowK_b (by omega)) (Below.refl _ _) (fun _ => rfl)
    (fun pre W => (∃ v, Boxed W w.heap.size 23 v ∧ W.ownsRow w.heap.size 26 2 v pre.length (labCells pre) ∧ (v = .slice none 0 0 ↔ pre = [])) ∧ Below w.heap.size w W)
    (fun _ _ _ => False)
    (OwnFrom.and (Own.from (holdsRow_own w.heap.size w.heap.size 23 26 2 (fun pre : List Lb => pre.length) (fun pre => labCells pre) (fun pre v => v = .slice none 0 0 ↔ pre = [])) _) (ownFrom_below (Nat.le_refl _) (by omega)))
    (fun _ _ _ _ _ hs _ _ => hs)
    ⟨⟨_, bS, World.ownsRow_nil _ _ _ _, by simp⟩, hB0⟩
    (fun x a' W => ∃ Bx, W.heap[Bx]? = some (.cells #[.string x.1, .string x.2] 26 (0, 0)) ∧ a' = { tmps := #[.slice none 0 0, .func (.func 17) #[] #[.pointer (some ⟨Bs, 0, none⟩)], .pointer (some ⟨w.heap.size, 0, none⟩), undef, .slice none 0 0, .pointer (some ⟨Bx, 0, none⟩), .func (.func 17) #[] #[.pointer (some ⟨Bs, 0, none⟩)], .agg #[.string x.1, .string x.2], undef, undef, undef, undef, undef], defers := [] })
    (fun x a' _ X Y row hs hg hr => by
      obtain ⟨Bx, h2, h3⟩ := hs
      refine ⟨Bx, ?_, h3⟩
      rw [hg.block Bx (Array.getElem?_eq_some_iff.1 h2).1 (fun e => by
        obtain ⟨_, o, ho, hno⟩ := hr Bx e.symm
        rw [h2] at ho; cases ho; cases hno)]
      exact h2)
    ?assign ?body ?done ?stop
  case assign =>
    rintro l pre x W K ⟨⟨v, hv, hrow, hnil⟩, hB1⟩ hK
    gi_wp2
    exact hK _ _ ((KeepsOthers.alloc _ _).from _) ((Below.refl _ W).alloc hB1.size _) ⟨⟨v, hv.alloc _, hrow.alloc _, hnil⟩, hB1.alloc hB1.size _⟩ ⟨W.heap.size, World.alloc_heap_new W _, rfl⟩
  case body =>
    rintro l pre x a' W hl ⟨r, hr⟩ ⟨⟨v, hv, hrow, hnil⟩, hB1⟩ ⟨Bx, bX, rfl⟩ hlt
    have cv := hv.cell
    have c0 : W.cell? ⟨Bx, 0, none⟩ = some (.string x.1) := by simp [World.cell?, bX]
    have c1 : W.cell? ⟨Bx, 1, none⟩ = some (.string x.2) := by simp [World.cell?, bX]
    have hlt' : pre.length < 1024 := by omega
    have HCE := hide (cells_lab W (.string x.1) (.string x.2) 26)
    gi_wp2_with (gi_at_builtin; refine wpListIn_append_own _ rfl _ _ 23 rfl w.heap.size 26 i0 (.agg #[.string ByteArray.empty, .string ByteArray.empty]) 2 32 Ybaf.underlying23 hi hz0 hz1 hz2 rfl (by decide) _ _ _ rfl (hrow.alloc _) ⟨W.heap.size, 0, none⟩ 1 1 [.string x.1, .string x.2] rfl rfl HCE.out (by simp [Value.oneCell']) (by unfold maxLen; omega) (by omega) (by have := hB1.size; simp; omega) ?_; intro v' w1 hown' hgrow _; obtain ⟨g', cap', rfl⟩ := ownsRow_succ hown'; obtain ⟨hv1, hv2, hr2, hk2, hb2⟩ := hv.appended (by decide) hrow hB1.size (Nat.le_refl _) hown' hgrow; have hc1 := hv1.cell; have hf1 := hv1.frozen)
    exact ⟨hk2.from _, hb2, ⟨_, hv2, by simpa [labCells_append, labCells_one] using hr2, by simp⟩, hB1.trans hb2⟩
  case done =>
    rintro D ys W hD rfl ⟨⟨v, hv, hrow, hnil⟩, hB1⟩ hK
    have cv := hv.cell
    gi_wp2
    refine ⟨by simp, .inl ⟨_, _, rfl, run_takeDeferred hK, ?_⟩⟩
    exact ⟨_, results_tmp rfl _ _ _, v, rfl, ownsRow_putObj hrow _ hK rfl, hnil, hB1.trans (belowK_b (w := w) (Nat.le_refl _) W D _ _ (by omega) hK rfl rfl)⟩
  case stop =>
    rintro D c pre W _ _ h _
    exact h.elim
end Go.Proofs.YbulkbsqFmt
