/- newAggregation and zzs0133aparts by contracts. -/
import Derived.Test.YbulkbsqGroup
import Derived.Deep.DeepCutAuto
import Derived.Deep.Light
namespace Go.Proofs.Ybulkbsq
open Go.RowKit Go.WideShapes

def byFn (wo : Bool) : Nat := if wo then 25 else 23
def bySs (wo : Bool) (ss : List ByteArray) : List ByteArray := if wo then MN :: ss else ss

theorem gl_any (wo : Bool) (a : Option Addr) (n c : Nat) (ss : List ByteArray) (B0 : Nat) (w : World) (hn : n ≤ 1024) (hr : StrRow (· < B0) w a n ss) (hnil : a = none → n = 0 ∧ c = 0) :
    Calls Yba.prog 15 #[.bool (!wo), .slice a n c] w fun e w' => ∃ g, e = .returned (.func (.func (byFn wo)) #[] #[.pointer (some ⟨g, 0, none⟩)]) ∧ w.heap.size ≤ g ∧ g < w'.heap.size ∧
      Bound (fun k => k < B0 ∨ w.heap.size ≤ k) w' g (bySs wo ss) ∧ Below w.heap.size w w' := by
  cases wo
  · exact gl_only a n c ss B0 w hr
  · exact gl_drop a n c ss B0 w hn hr hnil

/-- A 'grouping' at offset o of block b. -/
def GroupAt (w : World) (b o : Nat) (wo : Bool) (g : Nat) : Prop :=
  w.cell? ⟨b, o, none⟩ = some (.func (.func (byFn wo)) #[] #[.pointer (some ⟨g, 0, none⟩)]) ∧ w.cell? ⟨b, o + 1, none⟩ = some (.map none) ∧ w.cell? ⟨b, o + 2, none⟩ = some (.slice none 0 0) ∧ w.cell? ⟨b, o + 3, none⟩ = some (.slice none 0 0)

theorem Bound.mono {ok ok' : Nat → Prop} {w : World} {g : Nat} {ss : List ByteArray} (h : Bound ok w g ss) (hk : ∀ k, ok k → ok' k) : Bound ok' w g ss := by
  obtain ⟨a, n, c, h1, h2⟩ := h
  exact ⟨a, n, c, h1, h2.mono hk⟩

theorem Bound.setCell {ok : Nat → Prop} {w : World} {g : Nat} {ss : List ByteArray} (h : Bound ok w g ss) {p : Addr} (v : Value) (hg : g ≠ p.block) (hok : ∀ k, ok k → k ≠ p.block) : Bound ok (w.setCell p v) g ss := by
  obtain ⟨a, n, c, h1, h2⟩ := h
  refine ⟨a, n, c, ?_, h2.same fun q hq _ => ?_⟩
  · rw [World.cell?_setCell_other _ _ _ _ (by intro e; apply hg; rw [e])]; exact h1
  · rw [World.cell?_setCell_other _ _ _ _ (by intro e; apply hok _ hq; rw [e])]

theorem na_endB {w W w' : World} {g : Nat} {wo : Bool} {ss : List ByteArray} {ok : Nat → Prop} (hW : Below w.heap.size w W) (hb : Below W.heap.size W w') (hd : Bound ok w' g ss) :
    GroupAt (w'.alloc (.cells #[.func (.func (byFn wo)) #[] #[.pointer (some ⟨g, 0, none⟩)], .map none, .slice none 0 0, .slice none 0 0] 42)) w'.heap.size 0 wo g ∧
    Bound (fun _ => True) (w'.alloc (.cells #[.func (.func (byFn wo)) #[] #[.pointer (some ⟨g, 0, none⟩)], .map none, .slice none 0 0, .slice none 0 0] 42)) g ss ∧
    Below w.heap.size w (w'.alloc (.cells #[.func (.func (byFn wo)) #[] #[.pointer (some ⟨g, 0, none⟩)], .map none, .slice none 0 0, .slice none 0 0] 42)) ∧ w.heap.size ≤ w'.heap.size := by
  have hsz := hW.size
  have hsz2 := hb.size
  refine ⟨by unfold GroupAt; simp, (hd.mono (fun _ _ => trivial)).below ((Below.refl _ _).alloc (Nat.le_refl _) _) (Nat.le_refl _), (hW.trans (hb.mono hW.size)).alloc (by omega) _, by omega⟩

theorem na_endA {w W w' : World} {g : Nat} {wo : Bool} {ss : List ByteArray} (hW : W = (w.alloc (.cells #[.nilFunc, .map none, .slice none 0 0, .slice none 0 0] 42)).drew) (hb : Below W.heap.size W w') (hg : W.heap.size ≤ g)
    (hd : Bound (fun k => k < w.heap.size ∨ W.heap.size ≤ k) w' g ss) :
    GroupAt ((((w'.setCell ⟨w.heap.size, 0, none⟩ (.func (.func (byFn wo)) #[] #[.pointer (some ⟨g, 0, none⟩)])).setCell ⟨w.heap.size, 1, none⟩ (.map none)).setCell ⟨w.heap.size, 2, none⟩ (.slice none 0 0)).setCell ⟨w.heap.size, 3, none⟩ (.slice none 0 0)) w.heap.size 0 wo g ∧
    Bound (fun _ => True) ((((w'.setCell ⟨w.heap.size, 0, none⟩ (.func (.func (byFn wo)) #[] #[.pointer (some ⟨g, 0, none⟩)])).setCell ⟨w.heap.size, 1, none⟩ (.map none)).setCell ⟨w.heap.size, 2, none⟩ (.slice none 0 0)).setCell ⟨w.heap.size, 3, none⟩ (.slice none 0 0)) g ss ∧
    Below w.heap.size w ((((w'.setCell ⟨w.heap.size, 0, none⟩ (.func (.func (byFn wo)) #[] #[.pointer (some ⟨g, 0, none⟩)])).setCell ⟨w.heap.size, 1, none⟩ (.map none)).setCell ⟨w.heap.size, 2, none⟩ (.slice none 0 0)).setCell ⟨w.heap.size, 3, none⟩ (.slice none 0 0)) := by
  have hWs : W.heap.size = w.heap.size + 1 := by rw [hW]; simp
  have hWb : Below w.heap.size w W := by rw [hW]; exact ((Below.refl _ _).alloc (Nat.le_refl _) _).drew
  have hcell : ∀ i, i < 4 → (w'.cell? ⟨w.heap.size, i, none⟩).isSome = true := by
    intro i hi
    rw [hb.cell (p := ⟨w.heap.size, i, none⟩) (by show w.heap.size < _; omega), hW]
    match i, hi with
    | 0, _ => simp
    | 1, _ => simp
    | 2, _ => simp
    | 3, _ => simp
  have e0 := hcell 0 (by omega)
  have e1 := hcell 1 (by omega)
  have e2 := hcell 2 (by omega)
  have e3 := hcell 3 (by omega)
  refine ⟨?_, ?_, ?_⟩
  · unfold GroupAt
    simp [World.cell?_setCell_other, World.cell?_setCell_same', e0, e1, e2, e3]
  · have ok : ∀ k, (k < w.heap.size ∨ W.heap.size ≤ k) → k ≠ w.heap.size := by intro k hk; omega
    have hgn : g ≠ w.heap.size := by omega
    exact ((((hd.setCell _ hgn ok).setCell _ hgn ok).setCell _ hgn ok).setCell _ hgn ok).mono (fun _ _ => trivial)
  · exact ((((hWb.trans (hb.mono (by omega))).setCell (Nat.le_refl _) _).setCell (Nat.le_refl _) _).setCell (Nat.le_refl _) _).setCell (Nat.le_refl _) _

/-- What newAggregation hands back. -/
def Made (w : World) (op : Int) (wo : Bool) (pe px : Nat) (ss : List ByteArray) (e : Ending) (w' : World) : Prop :=
  ∃ r g, r < w'.heap.size ∧ Bound (fun _ => True) w' g (bySs wo ss) ∧ Below w.heap.size w w' ∧
    w'.cell? ⟨r, 0, none⟩ = some (.pointer (some ⟨pe, 0, none⟩)) ∧ w'.cell? ⟨r, 1, none⟩ = some .nilIface ∧ w'.cell? ⟨r, 2, none⟩ = some (.iface 29 (.pointer (some ⟨px, 0, none⟩))) ∧
    ((op = 8 ∧ e = .returned (.iface 61 (.pointer (some ⟨r, 0, none⟩))) ∧ w'.cell? ⟨r, 3, none⟩ = some (.func (.func 16) #[] #[]) ∧ GroupAt w' r 4 wo g) ∨
     (op = 9 ∧ e = .returned (.iface 61 (.pointer (some ⟨r, 0, none⟩))) ∧ w'.cell? ⟨r, 3, none⟩ = some (.func (.func 17) #[] #[]) ∧ GroupAt w' r 4 wo g) ∨
     (op = 11 ∧ e = .returned (.iface 74 (.pointer (some ⟨r, 0, none⟩))) ∧ GroupAt w' r 3 wo g) ∨
     ((op ≠ 8 ∧ op ≠ 9 ∧ op ≠ 11) ∧ e = .returned (.iface 78 (.pointer (some ⟨r, 0, none⟩))) ∧ GroupAt w' r 3 wo g))

set_option maxHeartbeats 2000000 in
set_option maxRecDepth 100000 in
theorem na_any (op : Int) (wo : Bool) (a : Option Addr) (n c : Nat) (ss : List ByteArray) (w : World) (pe px : Nat) (hpe : pe < w.heap.size) (hn : n ≤ 1024) (hr : StrRow (· < w.heap.size) w a n ss) (hnil : a = none → n = 0 ∧ c = 0)
    (h0 : w.cell? ⟨pe, 0, none⟩ = some (.int .i64 op)) (h2 : w.cell? ⟨pe, 2, none⟩ = some (.bool wo)) (h3 : w.cell? ⟨pe, 3, none⟩ = some (.slice a n c)) :
    Calls Yba.prog 7 #[.pointer (some ⟨pe, 0, none⟩), .nilIface, .iface 29 (.pointer (some ⟨px, 0, none⟩))] w fun e w' => Made w op wo pe px ss e w' := by
  have HR1 := hide (hr.below (Below.refl w.heap.size w).drew (Nat.le_refl _))
  have HR2 := hide (hr.below ((Below.refl w.heap.size w).alloc (Nat.le_refl _) (.cells #[.nilFunc, .map none, .slice none 0 0, .slice none 0 0] 42)).drew (Nat.le_refl _))
  have HN := hide hnil
  clear hr hnil
  go_enter Yba.func7, Yba.ntmps7
  go_upto_region 1 with fail
  go_cut [7] (fun v7 wc => ∃ b g, v7 = .pointer (some ⟨b, 0, none⟩) ∧ GroupAt wc b 0 wo g ∧ Bound (fun _ => True) wc g (bySs wo ss) ∧ Below w.heap.size w wc)
  case first =>
    go_region_with (go_at_call 15; refine (gl_any _ _ _ _ ss w.heap.size _ hn ?_ HN.out).mono ?_; (first | with_reducible exact HR1.out | with_reducible exact HR2.out); rintro e w' ⟨g, rfl, hg1, hg2, hbd, hbel⟩; obtain ⟨hc, hf⟩ := bcell hbel; have HB := hide hbel; have HD := hide hbd; have HG1 := hide hg1; clear hbel hbd hg1 hg2)
    all_goals (go_wp2_with fail; go_meet; go_light)
    all_goals first
      | (have E := na_endB (w := w) (W := w.drew) (wo := wo) ((Below.refl w.heap.size w).drew) (by with_reducible exact HB.out) HD.out; exact ⟨_, _, rfl, E.1, E.2.1, E.2.2.1⟩)
      | (have E := na_endA (w := w) (W := (w.alloc (.cells #[.nilFunc, .map none, .slice none 0 0, .slice none 0 0] 42)).drew) (wo := wo) rfl (by with_reducible exact HB.out) HG1.out HD.out; exact ⟨_, _, rfl, E.1, E.2.1, E.2.2⟩)
  case rest =>
    obtain ⟨b, g, rfl, ⟨g0, g1, g2, g3⟩, hbd, hbel⟩ := hcut
    have hpc : wc.cell? ⟨pe, 0, none⟩ = some (.int .i64 op) := by rw [hbel.cell hpe]; exact h0
    have HD := hide hbd
    have HB := hide hbel
    clear hbd hbel
    have fin : ∀ (cs : Array Value) (t : TypeId), Below w.heap.size w (wc.alloc (.cells cs t)) ∧ Bound (fun _ => True) (wc.alloc (.cells cs t)) g (bySs wo ss) := fun cs t =>
      ⟨HB.out.alloc HB.out.size _, HD.out.below ((Below.refl _ _).alloc (Nat.le_refl _) _) (Nat.le_refl _)⟩
    have FIN := hide fin
    clear fin
    by_cases c8 : op = 8
    · subst c8
      go_wp2
      go_ret
      exact ⟨wc.heap.size, g, by simp, (FIN.out _ _).2, (FIN.out _ _).1, by simp, by simp, by simp, .inl ⟨rfl, rfl, by simp, by unfold GroupAt; simp⟩⟩
    by_cases c9 : op = 9
    · subst c9
      go_wp2
      go_ret
      exact ⟨wc.heap.size, g, by simp, (FIN.out _ _).2, (FIN.out _ _).1, by simp, by simp, by simp, .inr (.inl ⟨rfl, rfl, by simp, by unfold GroupAt; simp⟩)⟩
    by_cases c11 : op = 11
    · subst c11
      go_wp2
      go_ret
      exact ⟨wc.heap.size, g, by simp, (FIN.out _ _).2, (FIN.out _ _).1, by simp, by simp, by simp, .inr (.inr (.inl ⟨rfl, rfl, by unfold GroupAt; simp⟩))⟩
    have b8 : (op == 8) = false := by simp [c8]
    have b9 : (op == 9) = false := by simp [c9]
    have b11 : (op == 11) = false := by simp [c11]
    go_wp2
    go_ret
    exact ⟨wc.heap.size, g, by simp, (FIN.out _ _).2, (FIN.out _ _).1, by simp, by simp, by simp, .inr (.inr (.inr ⟨⟨c8, c9, c11⟩, rfl, by unfold GroupAt; simp⟩))⟩
end Go.Proofs.Ybulkbsq
