/- LawS0133BLinear: the walk. -/
import Derived.Test.YbulkbsqNorm
import Derived.Deep.RegionLaw
namespace Go.Proofs.Ybulkbsq
open Go.RowKit Go.WideShapes

/-- append within the capacity of a row of the call's own, as one step of a region that draws. -/
theorem step_append_fits {P : Program} {ops : Array Oper} {o : Oper} {a : Act} {w : World} {K : Act → World → Prop} {Q : Exit → Act → World → Prop} {E : Prop}
    (hg : o.guard = none) (s x : Operand) (t : TypeId) (hop : o.op = Op.call { callee := Callee.builtin Builtin.append, args := #[s, x], argTypes := #[t, t] })
    (base : Nat) (e : TypeId) (i : TypeInfo) (size : Nat) (h1 : P.underlying t = some (.slice e)) (h2 : P.info? e = some i) (h4 : i.size = size)
    (g k cap : Nat) (xs : List Value) (hs : a.eval s = .slice (some ⟨g, 0, none⟩) k cap) (hown : w.ownsRow base e size (.slice (some ⟨g, 0, none⟩) k cap) k xs) (ad : Addr) (m c : Nat) (news : List Value) (hx : a.eval x = .slice (some ad) m c) (hn : news.length = m * size)
    (hc : ∀ j u, news[j]? = some u → w.cell? (ad.add j) = some u) (h1c : ∀ u ∈ news, u.oneCell' = true) (b1 : k + m ≤ cap)
    (hK : ∀ w', w'.ownsRow base e size (.slice (some ⟨g, 0, none⟩) (k + m) cap) (k + m) (xs ++ news) → w.grownBy w' (some g) → K (a.put o.dst (.slice (some ⟨g, 0, none⟩) (k + m) cap)) w') :
    if Region.wanted o (yielded ops a.tmps) = true then Oper.wp P o a w K Q else E := by
  have hw : Region.wanted o (yielded ops a.tmps) = true := by simp [Region.wanted, hg]
  rw [if_pos hw]
  obtain ⟨w', hrun, r1, r2⟩ := run_append_fits (P := P) w base t o.type e i size h1 h2 h4 g k cap xs hown ad m c news hn hc h1c b1
  unfold Oper.wp
  simp [execOp, hop, resolve, invoke, builtin, hs, hx, hrun, Result.andThen]
  exact hK w' r1 r2

theorem labCells_at (F : List Lb) : ∀ k, k < F.length → (labCells F)[k * 2]? = some (.string (F.getD k noL).1) ∧ (labCells F)[k * 2 + 1]? = some (.string (F.getD k noL).2) := by
  induction F with
  | nil => intro k hk; simp at hk
  | cons x r ih =>
    intro k hk
    cases k with
    | zero => simp [labCells]
    | succ j =>
      have := ih j (by simpa using hk)
      have e : labCells (x :: r) = .string x.1 :: .string x.2 :: labCells r := rfl
      rw [e, show (j + 1) * 2 = j * 2 + 1 + 1 by omega]
      simpa using this

/-- Two cells of an owned row of labels. -/
theorem owns_at {w : World} {base g m cap : Nat} {F : List Lb} (h : w.ownsRow base 53 2 (.slice (some ⟨g, 0, none⟩) m cap) m (labCells F)) (k : Nat) (hk : k < F.length) :
    w.cell? ⟨g, k * 2, none⟩ = some (.string (F.getD k noL).1) ∧ w.cell? ⟨g, k * 2 + 1, none⟩ = some (.string (F.getD k noL).2) := by
  obtain ⟨a, b⟩ := labCells_at F k hk
  have h1 := h.cells (g := g) rfl _ _ a
  have h2 := h.cells (g := g) rfl _ _ b
  rw [add_plain, Nat.zero_add] at h1 h2
  exact ⟨h1, h2⟩

def bang : ByteArray := ⟨#[33]⟩
/-- A name's label. -/
def lab (x : ByteArray) : Lb := (x, x ++ bang)

set_option maxHeartbeats 2000000 in
set_option maxRecDepth 100000 in
theorem linear_law (na : Option Addr) (nn nc : Nat) (ss : List ByteArray) (q : ByteArray) (pk : Nat) (w : World) (hn : nn ≤ 1024) (hp : pk ≤ 255)
    (hs : StrRow (· < w.heap.size) w na nn ss) (hnil : na = none → nn = 0 ∧ nc = 0) (hsz : ∀ s ∈ ss, s.size ≤ 140737488351232) :
    Calls Yba.prog 6 #[.slice na nn nc, .string q, .int .u8 pk] w fun e w' => e = .returned (.bool true) ∧ Below w.heap.size w w' := by
  have hg1 : ¬ (1024 : Int) < (nn : Int) := by omega
  have HCL := hide (clone_any na nn nc ss w hs hn hnil)
  have HSS := hide hs.1
  clear hs hnil
  obtain ⟨i0, hi, hz0, hz1, hz2⟩ := info_parts Yba.info53
  go_enter Yba.func6, Yba.ntmps6
  go_wp2_with fail
  refine HCL.out.mono ?_
  rintro e w1 ⟨a, cap, rfl, hown, hb1⟩
  have HSO := hide (sort_any w.heap.size a nn cap _ w1 hown hn hb1.size)
  have HB1 := hide hb1
  clear hown hb1 HCL
  go_wp2_with fail
  refine HSO.out.mono ?_
  rintro e w2 ⟨rfl, hown, hb2⟩
  have HB2 := hide (HB1.out.trans hb2)
  have HCO := hide (compact_any w.heap.size a nn cap _ w2 hown hn HB2.out.size)
  clear hown hb2 HSO HB1
  go_wp2_with fail
  refine HCO.out.mono ?_
  rintro e W ⟨rfl, hrow, hb3⟩
  obtain ⟨cs, hcs⟩ : ∃ cs, cs = (Lib.compact ((ss.map bytesOf).mergeSort fun x y => decide (x ≤ y))).map strOf := ⟨_, rfl⟩
  have hm : (Lib.compact ((ss.map bytesOf).mergeSort fun x y => decide (x ≤ y))).length = cs.length := by rw [hcs]; simp
  rw [← hcs, hm] at hrow
  rw [hm]
  have hle : cs.length ≤ 1024 := by
    have h1 := Lib.compact_length_le ((ss.map bytesOf).mergeSort fun x y => decide (x ≤ y))
    have h2 := HSS.out
    simp at h1
    omega
  have HORD : Hid (InOrder (cs.map lab)) := hide (by
    unfold InOrder
    rw [List.pairwise_map, hcs, List.pairwise_map]
    exact norm_pair (ss.map bytesOf))
  have HSIZE : Hid (∀ x ∈ cs, x.size ≤ 140737488351232) := hide (by
    intro x hx
    rw [hcs] at hx
    simp only [List.mem_map] at hx
    obtain ⟨l, hl, rfl⟩ := hx
    have := norm_mem _ l hl
    simp only [List.mem_map] at this
    obtain ⟨s, hsm, rfl⟩ := this
    exact hsz s hsm)
  have HBW := hide (HB2.out.trans hb3)
  have HROW := hide hrow
  clear hrow hb3 hm hcs HCO HB2 HSS hsz
  go_wp2_with (at_make; refine wpList_make_own _ rfl (.const (.int .i64 0)) (.tmp 22) 50 rfl W.heap.size 53 i0 (.agg #[.string ByteArray.empty, .string ByteArray.empty]) 2 Yba.underlying50 hi hz0 hz1 .i64 .i64 _ cs.length rfl rfl rfl (by rw [hz2]; omega) (by unfold maxLen; omega) (Nat.le_refl _) ?_; intro w4 hown4 hgrow4; have HO4 := hide hown4; have HG4 := hide hgrow4; clear hown4 hgrow4)
  have hb4 : Below W.heap.size W w4 := (Below.refl _ _).grown HG4.out (Nat.le_refl _) (fun k hk => by cases hk)
  go_loopw [8, 9] (fun v i wr => ∃ k : Nat, k ≤ cs.length ∧ i = .int .i64 k ∧ v = .slice (some ⟨W.heap.size, 0, none⟩) k cs.length ∧ wr.ownsRow W.heap.size 53 2 (.slice (some ⟨W.heap.size, 0, none⟩) k cs.length) k (labCells ((cs.take k).map lab)) ∧ Below W.heap.size W wr) (fun _ i _ => cs.length - (intOf i).toNat)
  case atStart => exact ⟨0, Nat.zero_le _, rfl, rfl, HO4.out, hb4⟩
  case round =>
    obtain ⟨k, hk, rfl, rfl, hown, hbr⟩ := hrel
    clear hb4 HO4 HG4
    by_cases hlt : k < cs.length
    · rcases HROW.out.2 with h | ⟨b, off, ha, _, hc⟩
      · exact absurd h (by omega)
      subst ha
      have q0 := hc k hlt
      have r0 := hbr.cell (cell_lt q0)
      rw [q0] at r0
      have hmem : cs.getD k ByteArray.empty ∈ cs := by simp [hlt]
      have hxs := HSIZE.out _ hmem
      obtain ⟨x, hx⟩ : ∃ x, x = cs.getD k ByteArray.empty := ⟨_, rfl⟩
      rw [← hx] at r0 hxs
      have HTK : Hid ((cs.take (k + 1)).map lab = (cs.take k).map lab ++ [lab x]) := hide (by
        rw [List.take_succ_eq_append_getElem hlt, hx]
        simp only [List.map_append, List.map_cons, List.map_nil, List.getD_eq_getElem?_getD, List.getElem?_eq_getElem hlt, Option.getD_some])
      have hadd := fun wx => run_string_add_sum (P := Yba.prog) wx x bang (by show x.size + 1 ≤ _; omega)
      have hk1 : (k : Int) < (cs.length : Int) := by omega
      have hbs := hbr.size
      have HO := hide hown
      have HB := hide hbr
      have HCE := hide (cells_lab wr (.string x) (.string (x ++ bang)) 53)
      clear hc q0 hmem hx hown hbr
      unfold bang at hadd HCE
      go_wp2_with fail
      go_region_law (refine step_append_fits rfl (.tmp 30) (.tmp 41) 50 rfl W.heap.size 53 i0 2 Yba.underlying50 hi hz1 W.heap.size k cs.length (labCells ((cs.take k).map lab)) rfl (HO.out.alloc _) ⟨wr.heap.size, 0, none⟩ 1 1 [.string x, .string (x ++ ⟨#[33]⟩)] rfl rfl (by exact HCE.out) (by simp [Value.oneCell']) (by omega) ?_; intro w5 hown5 hgrow5; have HO5 := hide hown5; have HG5 := hide hgrow5; clear hown5 hgrow5)
      all_goals go_wp2
      all_goals go_roundw
      case measure => simp [intOf]; omega
      case measure => simp [intOf]; omega
      all_goals exact ⟨k + 1, by omega, by go_num, rfl, by rw [HTK.out, labCells_append]; exact HO5.out, ((HB.out.alloc hbs _).drew).grown HG5.out (by simp; omega) (fun j hj => by cases hj; exact Nat.le_refl _)⟩
    · have hkl : k = cs.length := by omega
      have HORD2 := HORD.out
      rw [hkl, List.take_of_length_le (Nat.le_refl _)] at hown
      have hlr : LabRow (fun _ => True) wr (some ⟨W.heap.size, 0, none⟩) cs.length (cs.map lab) := by
        refine ⟨by simp, .inr ⟨W.heap.size, 0, rfl, trivial, fun i hi => ?_⟩⟩
        have := owns_at hown i (by simpa using hi)
        rw [Nat.zero_add]
        exact this
      have hbw := HBW.out.trans (hbr.mono HBW.out.size)
      have HROW2 := hide (HROW.out.below hbr (Nat.le_refl _))
      have HLR := hide hlr
      have HB := hide hbw
      have HO2 := hide HORD2
      have hws := hbw.size
      clear hown hlr hbw hbr HROW HORD HORD2 HSIZE HBW
      have hk0 : ¬ (k : Int) < (cs.length : Int) := by omega
      have tail : ∀ y : ByteArray, Calls Yba.prog 13 #[.slice (some ⟨W.heap.size, 0, none⟩) cs.length cs.length, .string y] wr fun e w' => e = .returned (.string (lookup (cs.map lab) y)) ∧ Below wr.heap.size wr w' :=
        fun y => get_any _ _ _ _ y wr HLR.out (by omega) HO2.out
      have tail2 : ∀ (y : ByteArray) (wx : World), Below wr.heap.size wr wx → Calls Yba.prog 14 #[.slice (some ⟨W.heap.size, 0, none⟩) cs.length cs.length, .string y] wx fun e w' => e = .returned (.string (lookup (cs.map lab) y)) ∧ w' = wx :=
        fun y wx h => linear_any _ _ _ _ y wx (HLR.out.below h (Nat.le_refl _)) (by omega)
      have T1 := hide tail
      have T2 := hide tail2
      clear tail tail2 HO2 HLR
      rw [hkl]
      by_cases hodd : pk % 2 = 1
      · have hob : ((pk : Int) % 2 == 1) = true := by simp; omega
        by_cases hpos : 0 < cs.length
        · rcases HROW2.out.2 with h | ⟨b, off, ha, _, hc⟩
          · exact absurd h (by omega)
          subst ha
          have hidx : pk / 2 % cs.length < cs.length := Nat.mod_lt _ hpos
          have r0 := hc _ hidx
          generalize cs.getD (pk / 2 % cs.length) ByteArray.empty = y at r0
          have hp1 : (0 : Int) < (cs.length : Int) := by omega
          have hb1 : (0 : Int) ≤ (pk : Int) / 2 % (cs.length : Int) := Int.emod_nonneg _ (by omega)
          have hb2 : (pk : Int) / 2 % (cs.length : Int) < (cs.length : Int) := Int.emod_lt_of_pos _ hp1
          clear hc
          go_wp2_with fail
          refine (T1.out y).mono ?_
          rintro e w6 ⟨rfl, hb6⟩
          have HT := hide (T2.out y w6 hb6)
          have HB6 := hide (HB.out.trans (hb6.mono hws))
          clear hb6 T1 T2
          go_wp2_with fail
          refine HT.out.mono ?_
          rintro e w7 ⟨rfl, rfl⟩
          go_wp2
          go_ret
          exact ⟨by simp, HB6.out⟩
        · have hp1 : ¬ (0 : Int) < (cs.length : Int) := by omega
          go_wp2_with fail
          refine (T1.out q).mono ?_
          rintro e w6 ⟨rfl, hb6⟩
          have HT := hide (T2.out q w6 hb6)
          have HB6 := hide (HB.out.trans (hb6.mono hws))
          clear hb6 T1 T2
          go_wp2_with fail
          refine HT.out.mono ?_
          rintro e w7 ⟨rfl, rfl⟩
          go_wp2
          go_ret
          exact ⟨by simp, HB6.out⟩
      · have hob : ((pk : Int) % 2 == 1) = false := by simp; omega
        go_wp2_with fail
        refine (T1.out q).mono ?_
        rintro e w6 ⟨rfl, hb6⟩
        have HT := hide (T2.out q w6 hb6)
        have HB6 := hide (HB.out.trans (hb6.mono hws))
        clear hb6 T1 T2
        go_wp2_with fail
        refine HT.out.mono ?_
        rintro e w7 ⟨rfl, rfl⟩
        go_wp2
        go_ret
        exact ⟨by simp, HB6.out⟩
end Go.Proofs.Ybulkbsq
