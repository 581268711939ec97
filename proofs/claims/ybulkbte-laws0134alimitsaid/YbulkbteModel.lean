/- zzs0134amodel. -/
import Derived.Test.YbulkbteRpB
import Derived.Test.YbulkbtePlainR
namespace Go.Proofs.Ybulkbte
open Go.RowKit Go.WideShapes

/-- The sets that came in: two slices an element. -/
def InSets (C : Nat) (w : World) (v : Value) (n : Nat) (A Sb : Nat → List Int) : Prop :=
  ∃ ao c, v = .slice ao n c ∧ (0 < n → ∃ b off, ao = some ⟨b, off, none⟩ ∧ b < C ∧ ∀ i, i < n → ∃ av sv, w.cell? ⟨b, off + i * 2, none⟩ = some av ∧ w.cell? ⟨b, off + i * 2 + 1, none⟩ = some sv ∧ Row C w av ((A i).map (Value.int .u32)) ∧ Row C w sv ((Sb i).map (Value.int .u8)))

theorem InSets.below {C : Nat} {w w' : World} {v : Value} {n : Nat} {A Sb : Nat → List Int} (h : InSets C w v n A Sb) (hb : Below C w w') : InSets C w' v n A Sb := by
  obtain ⟨ao, c, h1, h2⟩ := h
  refine ⟨ao, c, h1, fun hn => ?_⟩
  obtain ⟨b, off, h3, h4, h5⟩ := h2 hn
  refine ⟨b, off, h3, h4, fun i hi => ?_⟩
  obtain ⟨av, sv, h6, h7, h8, h9⟩ := h5 i hi
  exact ⟨av, sv, by rw [hb.cell (p := ⟨b, off + i * 2, none⟩) h4]; exact h6, by rw [hb.cell (p := ⟨b, off + i * 2 + 1, none⟩) h4]; exact h7, h8.below hb, h9.below hb⟩

theorem InSets.at {C : Nat} {w : World} {so : Option Addr} {sc n : Nat} {A Sb : Nat → List Int} (h : InSets C w (.slice so n sc) n A Sb) {i : Nat} (hi : i < n) :
    ∃ b off, so = some ⟨b, off, none⟩ ∧ b < C ∧ ∃ aa ac ba bc, w.cell? ⟨b, off + i * 2, none⟩ = some (.slice aa (A i).length ac) ∧ w.cell? ⟨b, off + i * 2 + 1, none⟩ = some (.slice ba (Sb i).length bc) ∧ Row C w (.slice aa (A i).length ac) ((A i).map (Value.int .u32)) ∧ Row C w (.slice ba (Sb i).length bc) ((Sb i).map (Value.int .u8)) := by
  obtain ⟨ao, c, h1, h2⟩ := h
  cases h1
  obtain ⟨b, off, h3, h4, h5⟩ := h2 (by omega)
  obtain ⟨av, sv, h6, h7, h8, h9⟩ := h5 i hi
  obtain ⟨aa, ac, rfl, -⟩ := id h8
  obtain ⟨ba, bc, rfl, -⟩ := id h9
  simp only [List.length_map] at *
  exact ⟨b, off, h3, h4, aa, ac, ba, bc, h6, h7, h8, h9⟩

/-- A byte names a set. -/
def ixs (n : Nat) (bs : List Int) : List Nat := bs.map (fun b => b.toNat % n)
def tops (n : Nat) (bs : List Int) : List Nat := if n = 0 then [] else ixs n bs

def Good (T : List Nat) (S : Nat → List Nat) (n : Nat) (rs : List Bool) : Prop :=
  rs.length = n ∧ (∀ x, rs.getD x false = true → Reach T S x) ∧ (∀ x ∈ T, rs.getD x false = true)

theorem bset_getD (rs : List Bool) (i j : Nat) (v : Bool) (hi : i < rs.length) : (rs.set i v).getD j false = if j = i then v else rs.getD j false := by
  rw [List.getD_eq_getElem?_getD, List.getElem?_set]
  by_cases h : i = j
  · subst h; simp [hi]
  · rw [if_neg h, if_neg (fun e => h e.symm), List.getD_eq_getElem?_getD]

theorem Good.set {T : List Nat} {S : Nat → List Nat} {n : Nat} {rs : List Bool} (h : Good T S n rs) {y : Nat} (hy : y < n) (hr : Reach T S y) : Good T S n (rs.set y true) := by
  refine ⟨by simpa using h.1, fun x hx => ?_, fun x hx => ?_⟩
  · rw [bset_getD _ _ _ _ (by have := h.1; omega)] at hx
    split at hx
    · rename_i e; exact e ▸ hr
    · exact h.2.1 x hx
  · rw [bset_getD _ _ _ _ (by have := h.1; omega)]
    split
    · rfl
    · exact h.2.2 x hx

def cnt (rs : List Bool) : Nat := rs.countP id

theorem cnt_le (rs : List Bool) : cnt rs ≤ rs.length := List.countP_le_length
theorem cnt_set {rs : List Bool} {y : Nat} (hy : y < rs.length) (h : rs.getD y false = false) : cnt (rs.set y true) = cnt rs + 1 := by
  unfold cnt
  rw [List.countP_set hy]
  have : rs[y] = false := by simpa [List.getElem?_eq_getElem hy] using h
  simp [this]

theorem made_rep (z : Value) (hz : z.cells = #[z]) (n : Nat) : (madeCells z.cells (n * 1)).toList = List.replicate n z := by
  rw [hz]
  apply List.ext_getElem
  · simp [madeCells]
  · intro i h1 h2
    simp [madeCells, Nat.mod_one]

set_option maxHeartbeats 4000000 in
set_option maxRecDepth 100000 in
theorem model_walk (C n : Nat) (A Sb : Nat → List Int) (TA Tb : List Int) (sv tav tsv : Value) (w : World) (hC : C ≤ w.heap.size) (hn : n ≤ 256)
    (hin : InSets C w sv n A Sb) (hra : Row C w tav (TA.map (Value.int .u32))) (hrs : Row C w tsv (Tb.map (Value.int .u8)))
    (hA : ∀ i, i < n → (A i).length ≤ 256) (hSb : ∀ i, i < n → (Sb i).length ≤ 256) (hb8 : ∀ i, i < n → ∀ b ∈ Sb i, 0 ≤ b ∧ b ≤ 255) (hTA : TA.length ≤ 256) (hTb : Tb.length ≤ 256) (ht8 : ∀ b ∈ Tb, 0 ≤ b ∧ b ≤ 255) :
    Calls Yba.prog 10 #[sv, tav, tsv] w fun e w' => ∃ ev rs, e = .returned ev ∧ Below w.heap.size w w' ∧ (∀ x, x < n → (rs x = true ↔ Reach (tops n Tb) (fun i => ixs n (Sb i)) x)) ∧
      Row w'.heap.size w' ev ((srt (TA ++ ((List.range n).filter rs).flatMap A)).map (Value.int .u32)) ∧ ∀ g, ev.ownBlock = some g → w.heap.size ≤ g := by
  obtain ⟨so, sc, rfl, -⟩ := id hin
  obtain ⟨ta, tc, rfl, -⟩ := id hra
  obtain ⟨ts, tsc, rfl, -⟩ := id hrs
  simp only [List.length_map] at *
  have HIN := hide hin
  have HRA := hide hra
  have HRS := hide hrs
  have HA := hide hA
  have HSB := hide hSb
  have HB8 := hide hb8
  have HT8 := hide ht8
  clear hin hra hrs hA hSb hb8 ht8
  obtain ⟨i0, hi, hz0, hz1, hz2⟩ := info_parts info4
  go_enter Yba.func10, Yba.ntmps10
  go_upto_if 24 with (at_make; refine wpList_make_full _ rfl (.tmp 21) (.tmp 21) 80 rfl w.heap.size 4 i0 (.bool false) 1 Yba.underlying80 hi hz0 hz1 .i64 .i64 _ _ n rfl rfl (by omega) (by omega) (by rw [hz2]; omega) (by unfold maxLen; omega) (Nat.le_refl _) ?_; intro w1 hown hgrow; have HO := hide hown; have HG := hide hgrow; clear hown hgrow)
  have HB1 : Hid (Below w.heap.size w w1) := hide ((Below.refl _ _).grown HG.out (Nat.le_refl _) (fun k hk => by cases hk))
  have HR1 : Hid (Blk w1 w.heap.size 4 ((List.replicate n false).map Value.bool)) := hide (by
    have := Blk.ofOwns HO.out
    rw [made_rep _ rfl] at this
    simpa using this)
  clear HO HG hz0 hz1 hz2 hi
  go_cut [10] from 19 (fun s10 wc => ∃ rs : List Bool, Good (tops n Tb) (fun i => ixs n (Sb i)) n rs ∧ Blk wc w.heap.size 4 (rs.map Value.bool) ∧ Below w.heap.size w wc)
  case first =>
    by_cases hn0 : n = 0
    · subst hn0
      have HE : Hid (Good (tops 0 Tb) (fun i => ixs 0 (Sb i)) 0 (List.replicate 0 false)) := hide ⟨rfl, fun x hx => by simp at hx, fun x hx => by simp [tops] at hx⟩
      go_wp2_with fail
      go_meet
      case rel => exact ⟨_, HE.out, HR1.out, HB1.out⟩
    · have hnp : (0 : Int) < (n : Int) := by omega
      go_wp2_with fail
      go_loopw [27] (fun iv wr => ∃ (j : Nat) (rs : List Bool), j ≤ Tb.length ∧ iv = .int .i64 j ∧ rs.length = n ∧ (∀ x, rs.getD x false = true → x ∈ (ixs n Tb)) ∧ (∀ x ∈ (ixs n Tb).take j, rs.getD x false = true) ∧ Blk wr w.heap.size 4 (rs.map Value.bool) ∧ Below w.heap.size w wr) (fun iv _ => Tb.length - (intOf iv).toNat)
      case atStart => exact ⟨0, _, Nat.zero_le _, rfl, by simp, fun x hx => by simp [List.getD_eq_getElem?_getD, List.getElem?_replicate] at hx; split at hx <;> simp at hx, by simp, HR1.out, HB1.out⟩
      case round =>
        obtain ⟨j, rs, hj, rfl, hrl, hr1, hr2, hR, hB⟩ := hrel
        by_cases hlt : j < Tb.length
        · obtain ⟨b, off, c, hv, hb, hc⟩ := (HRS.out.below (hB.mono hC)).at (by simpa using Nat.lt_of_le_of_lt (Nat.zero_le _) hlt)
          simp only [List.length_map, Value.slice.injEq] at hv
          obtain ⟨rfl, _, rfl⟩ := hv
          have hcj := hc j (by simpa using hlt)
          simp only [List.getElem_map] at hcj
          obtain ⟨y, hy⟩ : ∃ y : Int, y = Tb[j] := ⟨_, rfl⟩
          rw [← hy] at hcj
          have hy8 := HT8.out _ (List.getElem_mem hlt)
          rw [← hy] at hy8
          obtain ⟨q, rfl⟩ : ∃ q : Nat, y = q := ⟨y.toNat, by omega⟩
          have HY := hide hy
          clear hy
          have hq : q % n < n := Nat.mod_lt _ (by omega)
          have hcm : wr.cell? ⟨w.heap.size, q % n, none⟩ = some (.bool (rs.getD (q % n) false)) := by
            rw [hR.cell (i := q % n) (by simp [hrl]; exact hq)]
            simp [List.getElem?_eq_getElem (show q % n < rs.length by omega)]
          have hfm := hR.frozen (q % n)
          have hj1 : (j : Int) < (Tb.length : Int) := by omega
          have hqz : ((q : Int) % (n : Int)) = ((q % n : Nat) : Int) := by simp
          generalize hqm : q % n = m at *
          have HQM := hide hqm
          have HH1 := hide hr1
          have HH2 := hide hr2
          have HHR := hide hR
          have HHB := hide hB
          clear hqm hr1 hr2 hR hB hc
          go_wp2_with fail
          go_roundw
          case rel =>
            refine ⟨j + 1, rs.set m true, by omega, by go_num, by simpa using hrl, ?_, ?_, ?_, ?_⟩
            · intro x hx
              rw [bset_getD _ _ _ _ (by omega)] at hx
              split at hx
              · rename_i e
                rw [e, ← HQM.out]
                unfold ixs
                rw [List.mem_map]
                exact ⟨_, List.getElem_mem hlt, by rw [← HY.out]; simp⟩
              · exact HH1.out x hx
            · intro x hx
              rw [bset_getD _ _ _ _ (by omega)]
              split
              · rfl
              · rename_i hne
                refine HH2.out x ?_
                rw [List.take_succ_eq_append_getElem (by simpa [ixs] using hlt)] at hx
                rcases List.mem_append.1 hx with h | h
                · exact h
                · exfalso
                  apply hne
                  simp [ixs, ← HY.out] at h
                  rw [h, HQM.out]
            · rw [List.map_set]; exact HHR.out.set m _
            · exact HHB.out.setCell (p := ⟨w.heap.size, m, none⟩) (Nat.le_refl _) _
          case measure => simp [intOf]; omega
        · obtain rfl : j = Tb.length := by omega
          have hjj : ¬ ((Tb.length : Int) < (Tb.length : Int)) := by omega
          have HE : Hid (Good (tops n Tb) (fun i => ixs n (Sb i)) n rs) := hide (by
            have ht : tops n Tb = ixs n Tb := if_neg hn0
            refine ⟨hrl, fun x hx => .top (by rw [ht]; exact hr1 x hx), fun x hx => hr2 x ?_⟩
            rw [ht] at hx
            rw [List.take_of_length_le (by simp [ixs])]
            exact hx)
          have HHR := hide hR
          have HHB := hide hB
          clear hr1 hr2 hR hB hrl
          go_wp2_with fail
          go_meet
          case rel => exact ⟨rs, HE.out, HHR.out, HHB.out⟩
  case rest =>
    obtain ⟨rs, hgood, hR, hB⟩ := hcut
    have HGD := hide hgood
    have HHR := hide hR
    have HHB := hide hB
    clear hgood hR hB HR1 HB1
    go_wp2_with fail
    go_loopw [11] (fun rv wr => ∃ (r : Nat) (rs : List Bool), r ≤ n + 1 ∧ rv = .int .i64 r ∧ Good (tops n Tb) (fun i => ixs n (Sb i)) n rs ∧ r ≤ cnt rs ∧ Blk wr w.heap.size 4 (rs.map Value.bool) ∧ Below w.heap.size w wr) (fun rv _ => n + 1 - (intOf rv).toNat)
    case atStart => exact ⟨0, rs, Nat.zero_le _, rfl, HGD.out, Nat.zero_le _, HHR.out, HHB.out⟩
    case round =>
      obtain ⟨r, rs0, hr, rfl, hgood, hcnt, hR, hB⟩ := hrel
      clear HGD HHR HHB rs
      have hcl := cnt_le rs0
      have hgl := hgood.1
      have hrn : (r : Int) ≤ (n : Int) := by omega
      have HGD := hide hgood
      have HHR := hide hR
      have HHB := hide hB
      have HCN := hide hcnt
      clear hgood hR hB hcnt hcl hgl
      go_wp2_with fail
      go_loopw [12, 13] (fun cv iv wr => ∃ (i : Nat) (ch : Bool) (rs : List Bool), i ≤ n ∧ iv = .int .i64 i ∧ cv = .bool ch ∧ Good (tops n Tb) (fun i => ixs n (Sb i)) n rs ∧ r + (if ch then 1 else 0) ≤ cnt rs ∧ (ch = false → ∀ i', i' < i → rs.getD i' false = true → ∀ y ∈ ixs n (Sb i'), rs.getD y false = true) ∧ Blk wr w.heap.size 4 (rs.map Value.bool) ∧ Below w.heap.size w wr) (fun _ iv _ => n - (intOf iv).toNat)
      case atStart => exact ⟨0, false, rs0, Nat.zero_le _, rfl, rfl, HGD.out, by simpa using HCN.out, (fun _ i' h => absurd h (Nat.not_lt_zero _)), HHR.out, HHB.out⟩
      case round =>
        obtain ⟨i, ch, rs, hi, rfl, rfl, hgood, hcnt, hclo, hR, hB⟩ := hrel
        clear HGD HHR HHB HCN rs0
        by_cases hlt : i < n
        · have hci : wr.cell? ⟨w.heap.size, i, none⟩ = some (.bool (rs.getD i false)) := by
            have := hgood.1
            rw [hR.cell (i := i) (by simp; omega)]
            simp [List.getElem?_eq_getElem (show i < rs.length by omega)]
          have hi1 : (i : Int) < (n : Int) := by omega
          have hi0 : (0 : Int) ≤ (i : Int) := by omega
          cases hri : rs.getD i false
          · rw [hri] at hci
            have HRI := hide hri
            have HGD := hide hgood
            have HHR := hide hR
            have HHB := hide hB
            have HCN := hide hcnt
            have HCL := hide hclo
            clear hgood hR hB hcnt hclo hri
            go_wp2_with fail
            go_roundw
            case rel =>
              refine ⟨i + 1, ch, rs, by omega, by go_num, rfl, HGD.out, HCN.out, fun hc i' hi' hr' => ?_, HHR.out, HHB.out⟩
              by_cases he : i' = i
              · subst he; rw [HRI.out] at hr'; cases hr'
              · exact HCL.out hc i' (by omega) hr'
            case measure => simp [intOf]; omega
          · rw [hri] at hci
            obtain ⟨b, off, hso, hbC, aa, ac, ba, bc, hc0, hc1, _, hrow⟩ := (HIN.out.below (hB.mono hC)).at hlt
            cases hso
            have HRE := hide (hgood.2.1 i hri)
            have HROW : Hid (Row C w (.slice ba (Sb i).length bc) ((Sb i).map (Value.int .u8))) := hide (by
              obtain ⟨ao, c, h1, h2, h3⟩ := hrow
              refine ⟨ao, c, h1, h2, fun x hx j u hu => ?_⟩
              obtain ⟨h4, h5⟩ := h3 x hx j u hu
              exact ⟨h4, by rw [← hB.cell (p := x.add j) (by rw [add_block]; omega)]; exact h5⟩)
            have hsl := HSB.out i hlt
            have HGD := hide hgood
            have HHR := hide hR
            have HHB := hide hB
            have HCN := hide hcnt
            have HCL := hide hclo
            clear hgood hR hB hcnt hclo hri hrow
            go_wp2_with fail
            go_loopw [12, 58] (fun cv jv wr => ∃ (j : Nat) (ch : Bool) (rs : List Bool), j ≤ (Sb i).length ∧ jv = .int .i64 j ∧ cv = .bool ch ∧ Good (tops n Tb) (fun i => ixs n (Sb i)) n rs ∧ r + (if ch then 1 else 0) ≤ cnt rs ∧ (ch = false → (∀ i', i' < i → rs.getD i' false = true → ∀ y ∈ ixs n (Sb i'), rs.getD y false = true) ∧ ∀ y ∈ (ixs n (Sb i)).take j, rs.getD y false = true) ∧ Blk wr w.heap.size 4 (rs.map Value.bool) ∧ Below w.heap.size w wr) (fun _ jv _ => (Sb i).length - (intOf jv).toNat)
            case atStart => exact ⟨0, ch, rs, Nat.zero_le _, rfl, rfl, HGD.out, HCN.out, (fun hc => ⟨HCL.out hc, by simp⟩), HHR.out, HHB.out⟩
            case round =>
              obtain ⟨j, ch', rs', hj, rfl, rfl, hgood, hcnt, hclo, hR, hB⟩ := hrel
              clear HGD HHR HHB HCN HCL hci hc0 hc1
              by_cases hltj : j < (Sb i).length
              · obtain ⟨b2, off2, c2, hv, hb2, hc⟩ := (HROW.out.below (hB.mono hC)).at (by simpa using Nat.lt_of_le_of_lt (Nat.zero_le _) hltj)
                simp only [List.length_map, Value.slice.injEq] at hv
                obtain ⟨rfl, _, rfl⟩ := hv
                have hcj := hc j (by simpa using hltj)
                simp only [List.getElem_map] at hcj
                obtain ⟨y, hy⟩ : ∃ y : Int, y = (Sb i)[j] := ⟨_, rfl⟩
                rw [← hy] at hcj
                have hy8 := HB8.out i hlt _ (List.getElem_mem hltj)
                rw [← hy] at hy8
                obtain ⟨q, rfl⟩ : ∃ q : Nat, y = q := ⟨y.toNat, by omega⟩
                have HY := hide hy
                clear hy
                have hq : q % n < n := Nat.mod_lt _ (by omega)
                have hrl := hgood.1
                have hcm : wr.cell? ⟨w.heap.size, q % n, none⟩ = some (.bool (rs'.getD (q % n) false)) := by
                  rw [hR.cell (i := q % n) (by simp [hrl]; exact hq)]
                  simp [List.getElem?_eq_getElem (show q % n < rs'.length by omega)]
                have hfm := hR.frozen (q % n)
                have hj1 : (j : Int) < ((Sb i).length : Int) := by omega
                have hnp : (0 : Int) < (n : Int) := by omega
                have hqz : ((q : Int) % (n : Int)) = ((q % n : Nat) : Int) := by simp
                have HMEM : Hid (ixs n (Sb i) = (ixs n (Sb i)).take j ++ (q % n) :: (ixs n (Sb i)).drop (j + 1)) := hide (by
                  have h1 : j < (ixs n (Sb i)).length := by simpa [ixs] using hltj
                  have h2 : (ixs n (Sb i))[j] = q % n := by simp [ixs, ← HY.out]
                  rw [← h2, ← List.drop_eq_getElem_cons h1, List.take_append_drop])
                have HTK : Hid ((ixs n (Sb i)).take (j + 1) = (ixs n (Sb i)).take j ++ [q % n]) := hide (by
                  have h1 : j < (ixs n (Sb i)).length := by simpa [ixs] using hltj
                  have h2 : (ixs n (Sb i))[j] = q % n := by simp [ixs, ← HY.out]
                  rw [List.take_succ_eq_append_getElem h1, h2])
                generalize hqm : q % n = m at *
                have HQM := hide hqm
                have HGD := hide hgood
                have HHR := hide hR
                have HHB := hide hB
                have HCN := hide hcnt
                have HCL := hide hclo
                have HRM : Hid (Reach (tops n Tb) (fun i => ixs n (Sb i)) m) := hide (.step HRE.out (by show m ∈ ixs n (Sb i); rw [HMEM.out]; simp))
                clear hqm hgood hR hB hcnt hclo hc hrl
                cases hrm : rs'.getD m false
                · rw [hrm] at hcm
                  have HRMF := hide hrm
                  clear hrm
                  go_wp2_with fail
                  go_roundw
                  case rel =>
                    have hrl := HGD.out.1
                    refine ⟨j + 1, true, rs'.set m true, by omega, by go_num, rfl, HGD.out.set hq HRM.out, ?_, (fun h => by cases h), ?_, HHB.out.setCell (p := ⟨w.heap.size, m, none⟩) (Nat.le_refl _) _⟩
                    · rw [cnt_set (by omega) HRMF.out]
                      have := HCN.out
                      simp
                      omega
                    · rw [List.map_set]; exact HHR.out.set m _
                  case measure => simp [intOf]; omega
                · rw [hrm] at hcm
                  have HRMT := hide hrm
                  clear hrm
                  go_wp2_with fail
                  go_roundw
                  case rel =>
                    refine ⟨j + 1, ch', rs', by omega, by go_num, rfl, HGD.out, HCN.out, fun hc => ⟨(HCL.out hc).1, fun y hy => ?_⟩, HHR.out, HHB.out⟩
                    rw [HTK.out] at hy
                    rcases List.mem_append.1 hy with h | h
                    · exact (HCL.out hc).2 y h
                    · simp at h; rw [h]; exact HRMT.out
                  case measure => simp [intOf]; omega
              · obtain rfl : j = (Sb i).length := by omega
                have hjj : ¬ (((Sb i).length : Int) < ((Sb i).length : Int)) := by omega
                have HGD := hide hgood
                have HHR := hide hR
                have HHB := hide hB
                have HCN := hide hcnt
                have HCL := hide hclo
                clear hgood hR hB hcnt hclo
                go_wp2_with fail
                go_roundw
                case rel =>
                  refine ⟨i + 1, ch', rs', by omega, by go_num, rfl, HGD.out, HCN.out, fun hc i' hi' hr' y hy => ?_, HHR.out, HHB.out⟩
                  by_cases he : i' = i
                  · subst he
                    refine (HCL.out hc).2 y ?_
                    rw [List.take_of_length_le (by simp [ixs])]
                    exact hy
                  · exact (HCL.out hc).1 i' (by omega) hr' y hy
                case measure => simp [intOf]; omega
        · obtain rfl : i = n := by omega
          have hjj : ¬ ((i : Int) < (i : Int)) := by omega
          have hcl := cnt_le rs
          have hgl := hgood.1
          cases ch
          · have HDONE : Hid (∀ x, x < i → (rs.getD x false = true ↔ Reach (tops i Tb) (fun j => ixs i (Sb j)) x)) := hide (by
              intro x hx
              refine ⟨hgood.2.1 x, fun hr => ?_⟩
              clear hx
              induction hr with
              | top h => exact hgood.2.2 _ h
              | @step y z h1 h2 ih =>
                refine hclo rfl y ?_ ih z h2
                by_cases hy : y < i
                · exact hy
                · rw [List.getD_eq_getElem?_getD, List.getElem?_eq_none (by omega)] at ih
                  simp at ih)
            have HHR := hide hR
            have HHB := hide hB
            have hws := hB.size
            clear hgood hcnt hclo hR hB
            obtain ⟨i1, hi1, hy0, hy1, hy2⟩ := info_parts info25
            have HRAB := hide (HRA.out.below (HHB.out.mono hC))
            go_wp2_with (at_builtin; refine append_row rfl (.const (.slice none 0 0)) (.tmp 77) 23 rfl w.heap.size 25 i1 (.int .u32 0) 4 Yba.underlying23 hi1 hy0 hy1 hy2 rfl (.slice none 0 0) 0 [] rfl (World.ownsRow_nil _ _ _ _) C (.slice ta TA.length tc) (TA.map (Value.int .u32)) rfl (by exact HRAB.out) (by simp [Value.oneCell']) (by unfold maxLen; simp; omega) (by simp; omega) (by omega) ?_; intro oa3 oc3 w3 hown3 hgrow3; have HO3 := hide hown3; have HG3 := hide hgrow3; clear hown3 hgrow3)
            simp only [List.length_map, Nat.zero_add, List.nil_append] at HO3 ⊢
            have HB3 := hide (HHB.out.grown HG3.out hws (fun k hk => by cases hk))
            have HR3 : Hid (Blk w3 w.heap.size 4 (rs.map Value.bool)) := hide (by
              unfold Blk
              rw [HG3.out.block w.heap.size HHR.out.lt (by simp [Value.ownBlock])]
              exact HHR.out)
            clear HHR HHB HRAB HG3 hws
            have hcl2 : rs.length = i := hgl
            go_loopw [17, 18] (fun ev tv wr => ∃ (t L : Nat) (oa : Option Addr) (oc : Nat), t ≤ i ∧ tv = .int .i64 t ∧ ev = .slice oa L oc ∧ L = (TA ++ ((List.range t).filter (fun x => rs.getD x false)).flatMap A).length ∧ wr.ownsRow w.heap.size 25 1 (.slice oa L oc) L ((TA ++ ((List.range t).filter (fun x => rs.getD x false)).flatMap A).map (Value.int .u32)) ∧ Blk wr w.heap.size 4 (rs.map Value.bool) ∧ Below w.heap.size w wr) (fun _ tv _ => i - (intOf tv).toNat)
            case atStart => exact ⟨0, TA.length, oa3, oc3, Nat.zero_le _, rfl, rfl, by simp, by simpa using HO3.out, HR3.out, HB3.out⟩
            case round =>
              obtain ⟨t, L, oa, oc, ht, rfl, rfl, hL, hown, hR, hB⟩ := hrel
              clear HO3 HR3 HB3
              have hLb : L ≤ 66048 := by
                have h1 : (((List.range t).filter (fun x => rs.getD x false)).flatMap A).length ≤ i * 256 :=
                  flat_le (List.nodup_range.sublist List.filter_sublist) (fun x hx => by have := (List.mem_filter.1 hx).1; simp at this; omega) HA.out
                have h2 := Nat.mul_le_mul_right 256 hn
                rw [hL, List.length_append]
                omega
              have hws := hB.size
              have HLE := hide hL
              have HOW := hide hown
              have HHR := hide hR
              have HHB := hide hB
              by_cases hlt : t < i
              · have hct : wr.cell? ⟨w.heap.size, t, none⟩ = some (.bool (rs.getD t false)) := by
                  rw [hR.cell (i := t) (by simp; omega)]
                  simp [List.getElem?_eq_getElem (show t < rs.length by omega)]
                have ht1 : (t : Int) < (i : Int) := by omega
                have ht0 : (0 : Int) ≤ (t : Int) := by omega
                obtain ⟨b, off, hso, hbC, aa, ac, ba, bc, hc0, hc1, hrow, _⟩ := (HIN.out.below (hB.mono hC)).at hlt
                cases hso
                have HROW := hide hrow
                have hAt := HA.out t hlt
                clear hL hown hR hB hrow
                cases hrt : rs.getD t false
                · rw [hrt] at hct
                  have HF : Hid ((List.range (t + 1)).filter (fun x => rs.getD x false) = (List.range t).filter (fun x => rs.getD x false)) := hide (by
                    rw [List.range_succ, List.filter_append]; simp [List.getD_eq_getElem?_getD] at hrt; simp [hrt])
                  clear hrt
                  go_wp2_with fail
                  go_roundw
                  case rel => exact ⟨t + 1, L, oa, oc, by omega, by go_num, rfl, by rw [HF.out]; exact HLE.out, by rw [HF.out]; exact HOW.out, HHR.out, HHB.out⟩
                  case measure => simp [intOf]; omega
                · rw [hrt] at hct
                  have HF : Hid ((List.range (t + 1)).filter (fun x => rs.getD x false) = (List.range t).filter (fun x => rs.getD x false) ++ [t]) := hide (by
                    rw [List.range_succ, List.filter_append]; simp [List.getD_eq_getElem?_getD] at hrt; simp [hrt])
                  clear hrt
                  go_wp2_with (at_builtin; refine append_row rfl (.tmp 88) (.tmp 93) 23 rfl w.heap.size 25 i1 (.int .u32 0) 4 Yba.underlying23 hi1 hy0 hy1 hy2 rfl (.slice oa L oc) L ((TA ++ ((List.range t).filter (fun x => rs.getD x false)).flatMap A).map (Value.int .u32)) rfl (by exact HOW.out) C (.slice aa (A t).length ac) ((A t).map (Value.int .u32)) rfl (by exact HROW.out) (by simp [Value.oneCell']) (by unfold maxLen; simp; omega) (by simp; omega) (by omega) ?_; intro oa4 oc4 w4 hown4 hgrow4; have HO4 := hide hown4; have HG4 := hide hgrow4; clear hown4 hgrow4)
                  have HB4 := hide (HHB.out.grown HG4.out hws (fun k hk => (HOW.out.lt k hk).1))
                  have HR4 : Hid (Blk w4 w.heap.size 4 (rs.map Value.bool)) := hide (by
                    unfold Blk
                    rw [HG4.out.block w.heap.size HHR.out.lt (fun he => by
                      obtain ⟨cc, hcc⟩ := ownsRow_block HOW.out he.symm
                      have hb := HHR.out
                      unfold Blk at hb
                      rw [hb] at hcc
                      simp at hcc)]
                    exact HHR.out)
                  simp only [List.length_map, ← List.map_append] at HO4 ⊢
                  go_roundw
                  case rel =>
                    refine ⟨t + 1, L + (A t).length, oa4, oc4, by omega, by go_num, rfl, ?_, ?_, HR4.out, HB4.out⟩
                    · rw [HF.out, HLE.out]; simp; omega
                    · rw [HF.out]
                      have := HO4.out
                      simpa [List.append_assoc] using this
                  case measure => simp [intOf]; omega
              · obtain rfl : t = i := by omega
                have hjj2 : ¬ ((t : Int) < (t : Int)) := by omega
                have hsz : (TA ++ ((List.range t).filter (fun x => rs.getD x false)).flatMap A).length < 4611686018427387904 := by omega
                by_cases hL0 : L = 0
                · subst hL0
                  have HNIL : Hid (TA ++ ((List.range t).filter (fun x => rs.getD x false)).flatMap A = []) := hide (List.eq_nil_of_length_eq_zero hL.symm)
                  have HSRT := hide (sort_nil oa oc wr)
                  clear hL hown hR hB
                  go_wp2_with (go_at_call 17; refine HSRT.out.mono ?_; rintro e w' ⟨rfl, hw'⟩; have hw2 := hw'.symm; clear hw'; subst hw2)
                  go_ret
                  refine ⟨.slice oa 0 oc, fun x => rs.getD x false, rfl, HHB.out, HDONE.out, ?_, fun g hg => (HOW.out.lt g hg).1⟩
                  have h := Row.ofOwns HOW.out
                  have hs0 : srt [] = [] := by simp [srt]
                  rw [HNIL.out] at h ⊢
                  rw [hs0]
                  exact h
                · obtain ⟨g, cap, hv⟩ := own_form hown (by omega)
                  simp only [Value.slice.injEq] at hv
                  obtain ⟨rfl, _, rfl⟩ := hv
                  have hg1 := hown.lt g rfl
                  have HSRT := hide (sort_row g oc (TA ++ ((List.range t).filter (fun x => rs.getD x false)).flatMap A) wr hg1.2 (fun k hk => by
                    have h1 := hown.cellAt k (by omega)
                    rw [List.getElem?_map, List.getElem?_eq_getElem hk] at h1
                    refine ⟨?_, hown.frozenAt k⟩
                    rw [h1, List.getD_eq_getElem?_getD, List.getElem?_eq_getElem hk]
                    rfl) hsz)
                  rw [← hL] at HSRT
                  clear hL hown hR hB
                  go_wp2_with (go_at_call 17; refine HSRT.out.mono ?_; rintro e w5 ⟨rfl, hb5, hg5, hc5⟩; have HB5 := hide hb5; have HC5 := hide hc5; clear hb5 hc5)
                  go_ret
                  refine ⟨.slice (some ⟨g, 0, none⟩) L oc, fun x => rs.getD x false, rfl, HHB.out.trans (HB5.out.mono hg1.1), HDONE.out, ?_, fun g' hg' => by cases hg'; exact hg1.1⟩
                  refine ⟨some ⟨g, 0, none⟩, oc, by rw [List.length_map, srt_length, ← HLE.out], (fun h => by cases h), fun x hx j u hu => ?_⟩
                  cases hx
                  have hjl : j < (srt (TA ++ ((List.range t).filter (fun x => rs.getD x false)).flatMap A)).length := by
                    by_cases hjl : j < (srt (TA ++ ((List.range t).filter (fun x => rs.getD x false)).flatMap A)).length
                    · exact hjl
                    · rw [List.getElem?_eq_none (by simpa using hjl)] at hu; cases hu
                  rw [List.getElem?_map, List.getElem?_eq_getElem hjl] at hu
                  simp only [Option.map_some, Option.some.injEq] at hu
                  refine ⟨hg5, ?_⟩
                  rw [add_plain, Nat.zero_add, HC5.out j (by rw [srt_length, ← HLE.out] at hjl; exact hjl), ← hu, List.getD_eq_getElem?_getD, List.getElem?_eq_getElem hjl]
                  rfl
          · have HGD := hide hgood
            have HHR := hide hR
            have HHB := hide hB
            have HCN := hide hcnt
            clear hgood hR hB hcnt hclo
            go_wp2_with fail
            go_roundw
            case rel =>
              have := HCN.out
              simp at this
              exact ⟨r + 1, rs, by omega, by go_num, HGD.out, by omega, HHR.out, HHB.out⟩
            case measure =>
              have := HCN.out
              simp at this
              simp [intOf]
              omega
end Go.Proofs.Ybulkbte
