/- slices.Collect, slices.SortedFunc, labels.New by their contracts. -/
import Derived.Test.YbulkbsqFmtDelete
import Derived.Test.YbulkbsqFmtIter
import Derived.Test.YbulkbsqFmtCheck
namespace Go.Proofs.YbulkbsqFmt
open Go.RowKit Go.WideShapes Go.Stop

theorem labCells_at : ∀ (ls : List Lb) (i : Nat), i < ls.length → (labCells ls)[i * 2]? = some (.string (ls.getD i noL).1) ∧ (labCells ls)[i * 2 + 1]? = some (.string (ls.getD i noL).2)
  | [], i, h => absurd h (by simp)
  | l :: r, 0, _ => by simp [labCells]
  | l :: r, i + 1, h => by
    have ih := labCells_at r i (by simpa using h)
    have e : labCells (l :: r) = [.string l.1, .string l.2] ++ labCells r := rfl
    rw [e, show (i + 1) * 2 = i * 2 + 2 by omega]
    refine ⟨?_, ?_⟩
    · rw [List.getElem?_append_right (by simp)]
      simpa using ih.1
    · rw [List.getElem?_append_right (by simp)]
      simpa using ih.2

theorem LabW.row {w : World} {g cap n : Nat} {cur : Array Value} {ls : List Lb} (h : w.heap[g]? = some (.cells cur 26 (0, 0))) (_hs : cur.size = cap * 2) (_hn : n ≤ cap) (ht : cur.toList.take (n * 2) = labCells ls) (hl : ls.length = n) : LabW w g ls := by
  intro i hi
  obtain ⟨l0, l1⟩ := labCells_at ls i hi
  rw [← ht, List.getElem?_take_of_lt (by omega)] at l0 l1
  have e0 : cur[i * 2]? = some (.string (ls.getD i noL).1) := by simpa using l0
  have e1 : cur[i * 2 + 1]? = some (.string (ls.getD i noL).2) := by simpa using l1
  refine ⟨?_, ?_, ?_, ?_⟩
  · simp [World.cell?, h, e0]
  · simp [World.cell?, h, e1]
  · simp [World.frozen?, h]
  · simp [World.frozen?, h]

theorem values_any (a : Option Addr) (len cap : Nat) (w : World) : Calls Ybaf.prog 7 #[.slice a len cap] w fun e w' => e = .returned (.func (.func 17) #[] #[.pointer (some ⟨w.heap.size, 0, none⟩)]) ∧ w' = w.alloc (.cells #[.slice a len cap] 23) :=
  (callsIn_wide (n := 3)).1 (values_in Fence.wide 3 trivial rfl a len cap w)

/-- What AppendSeq and Collect give. -/
def Collected (w : World) (ls : List Lb) (e : Ending) (W' : World) : Prop := ∃ v, e = .returned v ∧ W'.ownsRow w.heap.size 26 2 v ls.length (labCells ls) ∧ (v = .slice none 0 0 ↔ ls = []) ∧ Below w.heap.size w W'

theorem append_any (Bs cap len : Nat) (a : Option Addr) (ls : List Lb) (w : World) (hle : len ≤ 1024) (hBs : Bs < w.heap.size)
    (hc : w.cell? ⟨Bs, 0, none⟩ = some (.slice a len cap)) (hI : LabRow (· < w.heap.size) w a len ls) :
    Calls Ybaf.prog 21 #[.slice none 0 0, .func (.func 17) #[] #[.pointer (some ⟨Bs, 0, none⟩)]] w fun e W' => Collected w ls e W' :=
  (callsIn_wide (n := 3)).1 (appendSeq_in Fence.wide 3 trivial trivial rfl (Nat.le_refl _) Bs cap len a ls w hle hBs hc hI)

set_option maxHeartbeats 1000000 in
theorem collect_any (Bs cap len : Nat) (a : Option Addr) (ls : List Lb) (w : World) (hle : len ≤ 1024) (hBs : Bs < w.heap.size)
    (hc : w.cell? ⟨Bs, 0, none⟩ = some (.slice a len cap)) (hI : LabRow (· < w.heap.size) w a len ls) :
    Calls Ybaf.prog 15 #[.func (.func 17) #[] #[.pointer (some ⟨Bs, 0, none⟩)]] w fun e W' => Collected w ls e W' := by
  have hA := hide (append_any Bs cap len a ls w hle hBs hc hI)
  clear hc hI
  go_enter Ybaf.func15, Ybaf.ntmps15
  go_wp2_with fail
  refine hA.out.mono ?_
  rintro e W' ⟨v, rfl, h⟩
  have H := hide h
  clear h
  go_wp2
  go_ret
  exact ⟨v, rfl, H.out⟩

/-- What SortedFunc gives. -/
def SortedTo (w : World) (ls : List Lb) (e : Ending) (w' : World) : Prop :=
  Below w.heap.size w w' ∧ ((e = .returned (.slice none 0 0) ∧ ls = []) ∨ ∃ g cap ls', e = .returned (.slice (some ⟨g, 0, none⟩) ls.length cap) ∧ 0 < ls.length ∧ ls.length ≤ cap ∧ w.heap.size ≤ g ∧ g < w'.heap.size ∧ ls'.Perm ls ∧ InOrder ls' ∧ LabW w' g ls')

theorem sort_none (p : Option Addr) (c : Nat) (w : World) : Calls Ybaf.prog 16 #[.slice p 0 c, .func (.func 8) #[] #[]] w fun e w' => e = .returned (.tuple #[]) ∧ w' = w :=
  AnyF.slices_SortFunc_none (P := Ybaf.prog) (ρ := Ybaf.sortLab_ren) { Ybaf.sortLab with } p c (.func (.func 8) #[] #[]) w

set_option maxHeartbeats 2000000 in
theorem sorted_any (Bs cap len : Nat) (a : Option Addr) (ls : List Lb) (w : World) (hle : len ≤ 1024) (hBs : Bs < w.heap.size)
    (hc : w.cell? ⟨Bs, 0, none⟩ = some (.slice a len cap)) (hI : LabRow (· < w.heap.size) w a len ls) :
    Calls Ybaf.prog 6 #[.func (.func 17) #[] #[.pointer (some ⟨Bs, 0, none⟩)], .func (.func 8) #[] #[]] w fun e W' => SortedTo w ls e W' := by
  obtain rfl := hI.1
  have hA := hide (collect_any Bs cap _ a ls w hle hBs hc hI)
  clear hc hI
  go_enter Ybaf.func6, Ybaf.ntmps6
  go_wp2_with fail
  refine hA.out.mono ?_
  rintro e W1 ⟨v, rfl, hown, hnil, hb1⟩
  have HB1 := hide hb1
  rcases hown.2 with ⟨rfl, h0⟩ | ⟨g, cp, cur, rfl, hg, hcur, hlc, _, hsz, htk⟩
  · have HN : Hid (ls = []) := hide (hnil.1 rfl)
    clear hb1 hown hnil h0
    go_wp2_with fail
    refine (sort_none none 0 W1).mono ?_
    rintro e w' ⟨rfl, hw'⟩
    have hw2 := hw'.symm
    subst hw2
    go_wp2
    go_ret
    exact ⟨HB1.out, .inl ⟨rfl, HN.out⟩⟩
  · have hgs : g < W1.heap.size := by
      by_cases h : g < W1.heap.size
      · exact h
      · rw [Array.getElem?_eq_none (by omega)] at hcur; cases hcur
    have hpos : 0 < ls.length := by
      rcases Nat.eq_zero_or_pos ls.length with h0 | h0
      · have := hnil.2 (by simpa using h0); cases this
      · exact h0
    have HL : Hid (LabW W1 g ls) := hide (LabW.row hcur hsz hlc htk rfl)
    have hs1 := hb1.size
    clear hb1 hown hnil hcur hsz htk
    have hS := hide (sort_any w.heap.size g ls.length cp ls W1 rfl HL.out hgs hs1 hg (by omega))
    go_wp2_with fail
    refine hS.out.mono ?_
    rintro e W2 ⟨rfl, ls', hp, hio, hlw, hb2⟩
    have HP := hide hp
    have HO := hide hio
    have HW := hide hlw
    have HB2 := hide hb2
    clear hp hio hlw hb2
    go_wp2
    go_ret
    exact ⟨HB1.out.trans HB2.out, .inr ⟨g, cp, ls', rfl, hpos, hlc, hg, Nat.lt_of_lt_of_le hgs HB2.out.size, HP.out, HO.out, HW.out⟩⟩

theorem neq_held (T : TypeId) (x : Value) (w : World) : (binOp .neq 29 (.iface T x) .nilIface).run Ybaf.prog w = .ok (.bool true) w := by kernel_rfl
theorem neq_nil (w : World) : (binOp .neq 29 .nilIface .nilIface).run Ybaf.prog w = .ok (.bool false) w := by kernel_rfl

set_option maxHeartbeats 1000000 in
theorem delete_none (a : Option Addr) (c : Nat) (w : World) :
    Calls Ybaf.prog 10 #[.slice a 0 c, .func (.func 11) #[] #[]] w fun e w' => e = .returned (.slice a 0 c) ∧ Below w.heap.size w w' := by
  go_enter Ybaf.func10, Ybaf.ntmps10
  go_wp2_with fail
  refine (index_zero a c w).mono ?_
  rintro e w1 ⟨hix, hb1⟩
  have HB1 := hide hb1
  rcases hix with ⟨k, hk, _, _, _⟩ | ⟨rfl, hno⟩
  · exact absurd hk (by omega)
  · clear hno hb1
    go_wp2
    go_ret
    exact ⟨rfl, HB1.out⟩

/-- What New gives. -/
def Made (w : World) (ls : List Lb) (e : Ending) (w' : World) : Prop :=
  Below w.heap.size w w' ∧ ((∃ v T x, e = .returned (.tuple #[v, .iface T x])) ∨ ∃ a m c ls', e = .returned (.tuple #[.slice a m c, .nilIface]) ∧ ls'.Perm ls ∧ InOrder ls' ∧ Apart ls' ls'.length ∧ LabRow (· < w'.heap.size) w' a m (left ls'))

theorem LabW.labRow {w : World} {g : Nat} {ls : List Lb} (h : LabW w g ls) (hg : g < w.heap.size) : LabRow (· < w.heap.size) w (some ⟨g, 0, none⟩) ls.length ls :=
  ⟨rfl, .inr ⟨g, 0, rfl, hg, fun i hi => by
    obtain ⟨c0, c1, _, _⟩ := h i hi
    rw [Nat.zero_add]
    exact ⟨c0, c1⟩⟩⟩

set_option maxHeartbeats 2000000 in
theorem new_any (F : Interp) (cap len : Nat) (a : Option Addr) (ls : List Lb) (w : World) (hF : F.answers w.tape) (hle : len ≤ 1024) (hI : LabRow (· < w.heap.size) w a len ls) :
    Calls Ybaf.prog 4 #[.slice a len cap] w fun e W' => Made w ls e W' := by
  obtain rfl := hI.1
  have HF := hide hF
  have HI := hide hI
  clear hI hF
  go_enter Ybaf.func4, Ybaf.ntmps4
  go_wp2_with fail
  refine (values_any a _ cap w).mono ?_
  rintro e w0 ⟨rfl, rfl⟩
  have hB0 : Below w.heap.size w (w.alloc (.cells #[.slice a ls.length cap] 23)) := (Below.refl _ w).alloc (Nat.le_refl _) _
  have hS := hide (sorted_any w.heap.size cap ls.length a ls (w.alloc (.cells #[.slice a ls.length cap] 23)) hle (by simp) (by simp) (by
    refine ⟨rfl, ?_⟩
    rcases HI.out.2 with h0 | ⟨b, off, hx, ho, hc⟩
    · exact .inl h0
    · refine .inr ⟨b, off, hx, by simp at ho ⊢; omega, fun i hi => ?_⟩
      obtain ⟨c0, c1⟩ := hc i hi
      exact ⟨by rw [hB0.cell (p := ⟨b, off + i * 2, none⟩) ho]; exact c0, by rw [hB0.cell (p := ⟨b, off + i * 2 + 1, none⟩) ho]; exact c1⟩))
  have HB0 := hide hB0
  clear hB0
  go_wp2_with fail
  refine hS.out.mono ?_
  rintro e W1 ⟨hb1, hcase⟩
  have hbb : Below w.heap.size w W1 := HB0.out.trans (hb1.mono (by simp))
  have hsz := hbb.size
  have htape : F.answers W1.tape := by rw [hbb.tape]; exact HF.out
  have HBB := hide hbb
  have HT := hide htape
  have hn0 := neq_nil
  have hn1 := neq_held
  clear hbb hb1 htape
  rcases hcase with ⟨rfl, hnil⟩ | ⟨g, cp, ls', rfl, hpos, hlc, hg, hgs, hp, hio, hlw⟩
  · have HN := hide hnil
    clear hnil
    go_wp2_with fail
    refine (check_zero none 0 W1).mono ?_
    rintro e W2 ⟨hck, hb2⟩
    have HB2 := hide (HBB.out.trans (hb2.mono hsz))
    have hs2 := hb2.size
    clear hb2
    rcases hck with ⟨rfl, hap⟩ | ⟨T, x, rfl⟩
    · clear hap
      go_wp2_with fail
      refine (delete_none none 0 W2).mono ?_
      rintro e W3 ⟨rfl, hb3⟩
      have HB3 := hide (HB2.out.trans (hb3.mono (by omega)))
      clear hb3
      go_wp2
      go_ret2
      refine ⟨HB3.out, .inr ⟨none, 0, 0, [], rfl, by rw [HN.out], List.Pairwise.nil, fun j hj => absurd hj (by simp), rfl, .inl rfl⟩⟩
    · go_wp2
      go_ret2
      exact ⟨HB2.out, .inl ⟨_, T, x, rfl⟩⟩
  · have HP := hide hp
    have HO := hide hio
    have HW := hide hlw
    have hlen : ls'.length = ls.length := hp.length_eq
    have hgw : w.heap.size ≤ g := by simp at hg; omega
    clear hp hio hlw hg
    have hK := hide (check_pos F g ls.length cp ls' W1 HT.out hlen hle hpos hgs HO.out (fun i hi => (HW.out i (by omega)).1))
    go_wp2_with fail
    refine hK.out.mono ?_
    rintro e W2 ⟨hck, hb2⟩
    have HW2 : Hid (LabW W2 g ls') := hide (HW.out.below hb2 hgs)
    have HB2 := hide (HBB.out.trans (hb2.mono hsz))
    have hs2 := hb2.size
    clear hb2
    rcases hck with ⟨rfl, hap⟩ | ⟨T, x, rfl⟩
    · have HA := hide hap
      clear hap
      have hD := hide (delete_pos g ls.length cp ls' W2 hlen hle hpos hlc (by omega) HW2.out)
      go_wp2_with fail
      refine hD.out.mono ?_
      rintro e W3 ⟨rfl, hlw3, hb3⟩
      have HW3 := hide hlw3
      have hs3 := hb3.size
      have HB3 := hide (HB2.out.trans (hb3.mono hgw))
      clear hb3 hlw3
      go_wp2
      go_ret2
      exact ⟨HB3.out, .inr ⟨_, _, _, ls', rfl, HP.out, HO.out, by rw [hlen]; exact HA.out, HW3.out.labRow (by omega)⟩⟩
    · go_wp2
      go_ret2
      exact ⟨HB2.out, .inl ⟨_, T, x, rfl⟩⟩
end Go.Proofs.YbulkbsqFmt
