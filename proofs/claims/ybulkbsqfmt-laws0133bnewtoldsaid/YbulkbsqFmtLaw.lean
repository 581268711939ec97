/- LawS0133BNew: the walk. -/
import Derived.Test.YbulkbsqFmtPlain
import Derived.Deep.RegionLaw
import Derived.OwnWalk
import Derived.Laws.OwnMore
namespace Go.Proofs.YbulkbsqFmt
open Go.RowKit Go.WideShapes Go.Stop

/-- append within the capacity of a row of the call's own, as one step of a region that draws. -/
theorem step_append_fits {P : Program} {ops : Array Oper} {o : Oper} {a : Act} {w : World} {K : Act → World → Prop} {Q : Exit → Act → World → Prop} {E : Prop}
    (hg : o.guard = none) (s x : Operand) (t : TypeId) (hop : o.op = Op.call { callee := Callee.builtin Builtin.append, args := #[s, x], argTypes := #[t, t] })
    (base : Nat) (e : TypeId) (i : TypeInfo) (size : Nat) (h1 : P.underlying t = some (.slice e)) (h2 : P.info? e = some i) (h4 : i.size = size)
    (g k cap : Nat) (xs : List Value) (hs : a.eval s = .slice (some ⟨g, 0, none⟩) k cap) (hown : w.ownsRow base e size (.slice (some ⟨g, 0, none⟩) k cap) k xs) (ad : Addr) (m c : Nat) (news : List Value) (hx : a.eval x = .slice (some ad) m c) (hn : news.length = m * size)
    (hc : ∀ j u, news[j]? = some u → w.cell? (ad.add j) = some u) (h1c : ∀ u ∈ news, u.oneCell' = true) (b1 : k + m ≤ cap)
    (hK : ∀ w', w'.ownsRow base e size (.slice (some ⟨g, 0, none⟩) (k + m) cap) (k + m) (xs ++ news) → w.grownBy w' (some g) → K (a.put o.dst (.slice (some ⟨g, 0, none⟩) (k + m) cap)) w') :
    if Region.wanted o (yielded ops a.tmps) = true then Oper.wp P o a w K Q else E := by
  have hw : Region.wanted o (yielded ops a.tmps) = true := by simp [Region.wanted, hg]
  rw [if_pos hw]
  obtain ⟨w', hrun, r1, r2⟩ := run_append_fits (P := P) w base t o.type e i size h1 h2 h4 g k cap xs hown ad m c news hn hc h1c b1
  unfold Oper.wp
  simp [execOp, hop, resolve, invoke, builtin, hs, hx, hrun, Result.andThen]
  exact hK w' r1 r2

/-- Two cells of an owned row of labels. -/
theorem owns_at {w : World} {base g m cap : Nat} {F : List Lb} (h : w.ownsRow base 26 2 (.slice (some ⟨g, 0, none⟩) m cap) m (labCells F)) (k : Nat) (hk : k < F.length) :
    w.cell? ⟨g, k * 2, none⟩ = some (.string (F.getD k noL).1) ∧ w.cell? ⟨g, k * 2 + 1, none⟩ = some (.string (F.getD k noL).2) := by
  obtain ⟨a, b⟩ := labCells_at F k hk
  have h1 := h.cells (g := g) rfl _ _ a
  have h2 := h.cells (g := g) rfl _ _ b
  rw [add_plain, Nat.zero_add] at h1 h2
  exact ⟨h1, h2⟩


theorem owns_lt {w : World} {base g m cap : Nat} {xs : List Value} (h : w.ownsRow base 26 2 (.slice (some ⟨g, 0, none⟩) m cap) m xs) : g < w.heap.size := by
  rcases h.2 with ⟨h, _⟩ | ⟨g', cp, cur, he, _, hcur, _⟩
  · cases h
  · cases he
    by_cases h : g < w.heap.size
    · exact h
    · rw [Array.getElem?_eq_none (by omega)] at hcur; cases hcur

set_option maxHeartbeats 4000000 in
set_option maxRecDepth 100000 in
theorem new_law (F : Interp) (na : Option Addr) (nn nc : Nat) (ps : List Lb) (q : ByteArray) (pk : Nat) (w : World) (hF : F.answers w.tape) (hn : nn ≤ 1024) (hp : pk ≤ 255)
    (hs : LabRow (· < w.heap.size) w na nn ps) :
    Calls Ybaf.prog 3 #[.slice na nn nc, .string q, .int .u8 pk] w fun e w' => e = .returned (.bool true) ∧ Below w.heap.size w w' := by
  have hg1 : ¬ (1024 : Int) < (nn : Int) := by omega
  have hpl := hs.1
  have HS := hide hs.2
  have HF := hide hF
  clear hs hF
  obtain ⟨i0, hi, hz0, hz1, hz2⟩ := info_parts Ybaf.info26
  go_enter Ybaf.func3, Ybaf.ntmps3
  go_wp2_with (at_make; refine wpList_make_own _ rfl (.const (.int .i64 0)) (.tmp 18) 23 rfl w.heap.size 26 i0 (.agg #[.string ByteArray.empty, .string ByteArray.empty]) 2 Ybaf.underlying23 hi hz0 hz1 .i64 .i64 _ nn rfl rfl rfl (by rw [hz2]; omega) (by unfold maxLen; omega) (Nat.le_refl _) ?_; intro w4 hown4 hgrow4; have HO4 := hide hown4; have HG4 := hide hgrow4; clear hown4 hgrow4)
  have hb4 : Below w.heap.size w w4 := (Below.refl _ _).grown HG4.out (Nat.le_refl _) (fun k hk => by cases hk)
  go_loopw [7, 8] (fun v i wr => ∃ k : Nat, k ≤ nn ∧ i = .int .i64 k ∧ v = .slice (some ⟨w.heap.size, 0, none⟩) k nn ∧ wr.ownsRow w.heap.size 26 2 (.slice (some ⟨w.heap.size, 0, none⟩) k nn) k (labCells (ps.take k)) ∧ Below w.heap.size w wr) (fun _ i _ => nn - (intOf i).toNat)
  case atStart => exact ⟨0, Nat.zero_le _, rfl, rfl, HO4.out, hb4⟩
  case round =>
    obtain ⟨k, hk, rfl, rfl, hown, hbr⟩ := hrel
    clear hb4 HO4 HG4
    by_cases hlt : k < nn
    · rcases HS.out with h | ⟨b, off, ha, hob, hc⟩
      · exact absurd h (by omega)
      subst ha
      obtain ⟨q0, q1⟩ := hc k hlt
      have r0 := hbr.cell (cell_lt q0)
      rw [q0] at r0
      have r1 := hbr.cell (cell_lt q1)
      rw [q1] at r1
      have HTK : Hid (ps.take (k + 1) = ps.take k ++ [ps.getD k noL]) := hide (by
        rw [List.take_succ_eq_append_getElem (by omega)]
        simp [show k < ps.length by omega])
      generalize ps.getD k noL = x at r0 r1 HTK
      have hk1 : (k : Int) < (nn : Int) := by omega
      have hbs := hbr.size
      have HO := hide hown
      have HB := hide hbr
      have HCE := hide (cells_lab wr (.string x.1) (.string x.2) 26)
      clear hc q0 q1 hown hbr
      go_wp2_with fail
      go_region_law (refine step_append_fits rfl (.tmp 26) (.tmp 38) 23 rfl w.heap.size 26 i0 2 Ybaf.underlying23 hi hz1 w.heap.size k nn (labCells (ps.take k)) rfl (HO.out.alloc _) ⟨wr.heap.size, 0, none⟩ 1 1 [.string x.1, .string x.2] rfl rfl (by exact HCE.out) (by simp [Value.oneCell']) (by omega) ?_; intro w5 hown5 hgrow5; have HO5 := hide hown5; have HG5 := hide hgrow5; clear hown5 hgrow5)
      all_goals go_wp2
      all_goals go_roundw
      case measure => simp [intOf]; omega
      case measure => simp [intOf]; omega
      all_goals exact ⟨k + 1, by omega, by go_num, rfl, by rw [HTK.out, labCells_append]; exact HO5.out, ((HB.out.alloc hbs _).drew).grown HG5.out (by simp; omega) (fun j hj => by cases hj; exact Nat.le_refl _)⟩
    · obtain rfl : k = nn := by omega
      rw [List.take_of_length_le (by omega)] at hown
      have hwl : w.heap.size < wr.heap.size := owns_lt hown
      have hlr : LabRow (· < wr.heap.size) wr (some ⟨w.heap.size, 0, none⟩) k ps := by
        refine ⟨by omega, .inr ⟨w.heap.size, 0, rfl, hwl, fun i hi => ?_⟩⟩
        have := owns_at hown i (by omega)
        rw [Nat.zero_add]
        exact this
      have HN := hide (new_any F k k (some ⟨w.heap.size, 0, none⟩) ps wr (by rw [hbr.tape]; exact HF.out) hn hlr)
      have HR := hide (fun i (hi : i < k) => owns_at hown i (by omega))
      have HB := hide hbr
      have hws := hbr.size
      have hn0 := neq_nil
      have hn1 := neq_held
      clear hown hbr hlr HF HS
      have hk0 : ¬ (k : Int) < (k : Int) := by omega
      generalize k = nn at *
      go_wp2_with fail
      refine HN.out.mono ?_
      rintro e W2 ⟨hb2, hcase⟩
      have HB2 := hide (HB.out.trans (hb2.mono hws))
      have hs2 := HB2.out.size
      rcases hcase with ⟨v, T, x, rfl⟩ | ⟨a, m, c, ls', rfl, hpm, hio, hap, hrow⟩
      · clear hb2
        go_wp2
        go_ret
        exact ⟨rfl, HB2.out⟩
      have HG : Hid (∀ y : ByteArray, Calls Ybaf.prog 5 #[.slice a m c, .string y] W2 fun e w' => e = .returned (.string (lookup (left ls') y)) ∧ Below W2.heap.size W2 w') := hide (fun y => get_any a m c _ y W2 hrow (by have h1 := hrow.1; have h2 := left_length ls'; have h3 := hpm.length_eq; omega) (left_order hio))
      have HL : Hid (∀ y, lookup (left ls') y = lastV ps y) := hide (fun y => plain_law hpm hio hap y)
      have HR2 : Hid (∀ i, i < nn → W2.cell? ⟨w.heap.size, i * 2, none⟩ = some (.string (ps.getD i noL).1) ∧ W2.cell? ⟨w.heap.size, i * 2 + 1, none⟩ = some (.string (ps.getD i noL).2)) := hide (fun i hi => by
        obtain ⟨c0, c1⟩ := HR.out i hi
        exact ⟨by rw [hb2.cell (p := ⟨w.heap.size, i * 2, none⟩) hwl]; exact c0, by rw [hb2.cell (p := ⟨w.heap.size, i * 2 + 1, none⟩) hwl]; exact c1⟩)
      clear hb2 hpm hio hap hrow HR HN HB
      by_cases hodd : pk % 2 = 1
      · have hob : ((pk : Int) % 2 == 1) = true := by simp; omega
        by_cases hpos : 0 < nn
        · have hidx : pk / 2 % nn < nn := Nat.mod_lt _ hpos
          have r0 := (HR2.out _ hidx).1
          generalize (ps.getD (pk / 2 % nn) noL).1 = y at r0
          have hp1 : (0 : Int) < (nn : Int) := by omega
          have hb1 : (0 : Int) ≤ (pk : Int) / 2 % (nn : Int) := Int.emod_nonneg _ (by omega)
          have hb2 : (pk : Int) / 2 % (nn : Int) < (nn : Int) := Int.emod_lt_of_pos _ hp1
          have hT := hide (fun k (hk : k < nn) => HR2.out k hk)
          go_wp2
          go_loopw [12, 13] (fun v i wr => ∃ k : Nat, k ≤ nn ∧ i = .int .i64 k ∧ v = .string (lastV (ps.take k) y) ∧ wr = W2) (fun _ i _ => nn - (intOf i).toNat)
          case atStart => exact ⟨0, Nat.zero_le _, rfl, rfl, rfl⟩
          case round =>
            obtain ⟨k, hk, rfl, rfl, hwr⟩ := hrel
            have hw2 := hwr.symm
            subst hw2
            by_cases hlt : k < nn
            · obtain ⟨r0, r1⟩ := HR2.out k hlt
              have HTK : Hid (ps.take (k + 1) = ps.take k ++ [ps.getD k noL]) := hide (by
                rw [List.take_succ_eq_append_getElem (by omega)]
                simp [show k < ps.length by omega])
              generalize ps.getD k noL = x at r0 r1 HTK
              have hk1 : (k : Int) < (nn : Int) := by omega
              by_cases hxy : x.1 = y
              · have hb : (x.1.toList == y.toList) = true := by rw [toList_eq]; simpa using hxy
                go_wp2
                go_roundw
                case rel => exact ⟨k + 1, by omega, by go_num, by rw [HTK.out, lastV_snoc, if_pos hxy], trivial⟩
                case measure => simp [intOf]; omega
              · have hb : (x.1.toList == y.toList) = false := by rw [toList_eq]; simpa using hxy
                go_wp2
                go_roundw
                case rel => exact ⟨k + 1, by omega, by go_num, by rw [HTK.out, lastV_snoc, if_neg hxy], trivial⟩
                case measure => simp [intOf]; omega
            · obtain rfl : k = nn := by omega
              have hk1 : ¬ (k : Int) < (k : Int) := by omega
              have hG := hide (HG.out y)
              have HQ := hide (HL.out y)
              clear HG HL
              go_wp2_with fail
              refine hG.out.mono ?_
              rintro e W3 ⟨rfl, hb3⟩
              have HB3 := hide (HB2.out.trans (hb3.mono hs2))
              have hfin : (lookup (left ls') y).toList == (lastV (ps.take k) y).toList := by
                rw [toList_eq, HQ.out, List.take_of_length_le (by omega)]; simp
              clear hb3
              go_wp2
              go_ret
              exact ⟨by simp, HB3.out⟩
        · have hp1 : ¬ (0 : Int) < (nn : Int) := by omega
          have hT := hide (fun k (hk : k < nn) => HR2.out k hk)
          go_wp2
          go_loopw [12, 13] (fun v i wr => ∃ k : Nat, k ≤ nn ∧ i = .int .i64 k ∧ v = .string (lastV (ps.take k) q) ∧ wr = W2) (fun _ i _ => nn - (intOf i).toNat)
          case atStart => exact ⟨0, Nat.zero_le _, rfl, rfl, rfl⟩
          case round =>
            obtain ⟨k, hk, rfl, rfl, hwr⟩ := hrel
            have hw2 := hwr.symm
            subst hw2
            by_cases hlt : k < nn
            · exact absurd hlt (by omega)
            · obtain rfl : k = nn := by omega
              have hk1 : ¬ (k : Int) < (k : Int) := by omega
              have hG := hide (HG.out q)
              have HQ := hide (HL.out q)
              clear HG HL
              go_wp2_with fail
              refine hG.out.mono ?_
              rintro e W3 ⟨rfl, hb3⟩
              have HB3 := hide (HB2.out.trans (hb3.mono hs2))
              have hfin : (lookup (left ls') q).toList == (lastV (ps.take k) q).toList := by
                rw [toList_eq, HQ.out, List.take_of_length_le (by omega)]; simp
              clear hb3
              go_wp2
              go_ret
              exact ⟨by simp, HB3.out⟩
      · have hob : ((pk : Int) % 2 == 1) = false := by simp; omega
        have hT := hide (fun k (hk : k < nn) => HR2.out k hk)
        go_wp2
        go_loopw [12, 13] (fun v i wr => ∃ k : Nat, k ≤ nn ∧ i = .int .i64 k ∧ v = .string (lastV (ps.take k) q) ∧ wr = W2) (fun _ i _ => nn - (intOf i).toNat)
        case atStart => exact ⟨0, Nat.zero_le _, rfl, rfl, rfl⟩
        case round =>
          obtain ⟨k, hk, rfl, rfl, hwr⟩ := hrel
          have hw2 := hwr.symm
          subst hw2
          by_cases hlt : k < nn
          · obtain ⟨r0, r1⟩ := HR2.out k hlt
            have HTK : Hid (ps.take (k + 1) = ps.take k ++ [ps.getD k noL]) := hide (by
              rw [List.take_succ_eq_append_getElem (by omega)]
              simp [show k < ps.length by omega])
            generalize ps.getD k noL = x at r0 r1 HTK
            have hk1 : (k : Int) < (nn : Int) := by omega
            by_cases hxy : x.1 = q
            · have hb : (x.1.toList == q.toList) = true := by rw [toList_eq]; simpa using hxy
              go_wp2
              go_roundw
              case rel => exact ⟨k + 1, by omega, by go_num, by rw [HTK.out, lastV_snoc, if_pos hxy], trivial⟩
              case measure => simp [intOf]; omega
            · have hb : (x.1.toList == q.toList) = false := by rw [toList_eq]; simpa using hxy
              go_wp2
              go_roundw
              case rel => exact ⟨k + 1, by omega, by go_num, by rw [HTK.out, lastV_snoc, if_neg hxy], trivial⟩
              case measure => simp [intOf]; omega
          · obtain rfl : k = nn := by omega
            have hk1 : ¬ (k : Int) < (k : Int) := by omega
            have hG := hide (HG.out q)
            have HQ := hide (HL.out q)
            clear HG HL
            go_wp2_with fail
            refine hG.out.mono ?_
            rintro e W3 ⟨rfl, hb3⟩
            have HB3 := hide (HB2.out.trans (hb3.mono hs2))
            have hfin : (lookup (left ls') q).toList == (lastV (ps.take k) q).toList := by
              rw [toList_eq, HQ.out, List.take_of_length_le (by omega)]; simp
            clear hb3
            go_wp2
            go_ret
            exact ⟨by simp, HB3.out⟩
end Go.Proofs.YbulkbsqFmt
