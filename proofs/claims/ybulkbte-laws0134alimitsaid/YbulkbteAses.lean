/- setSearch.ases. -/
import Derived.Test.YbulkbteRpB
import Derived.Test.YbulkbtePlainR
namespace Go.Proofs.Ybulkbte
open Go.RowKit Go.WideShapes

/-- What ases answers. -/
def AsesPost (D SS M n k : Nat) (ix : Value) (TA os : List Int) (TS : List Nat) (A : Nat → List Int) (S : Nat → List Nat) (limit : Int) (w : World) (e : Ending) (w' : World) : Prop :=
  ∃ gv ok, e = .returned (.tuple #[gv, .bool ok]) ∧ Fr D SS M w w' ∧ (∃ r' fv', Idle w' D SS M n ix r' fv') ∧
    (ok = true → ∃ fs : List Nat, fs.Nodup ∧ (∀ x ∈ fs, x < n) ∧ (∀ x, x ∈ fs ↔ Reach TS S x) ∧ (TA.length : Int) + TS.length ≤ limit ∧ w'.ownsRow D 25 1 gv (k + TA.length + (fs.flatMap A).length) ((os ++ TA ++ fs.flatMap A).map (Value.int .u32))) ∧
    (ok = false → limit < total n TA.length TS.length (fun i => (A i).length) (fun i => (S i).length) ∧ Row w'.heap.size w' gv (os.map (Value.int .u32)))

theorem SSt.grown {w w' : World} {D SS M n : Nat} {ix : Value} {r : Int} {P : Nat → Nat} {fv : Value} {fs : List Nat} (h : SSt w D SS M n ix r P fv fs) {ov : Value} {k : Nat} {us : List Value} (ho : w.ownsRow D 25 1 ov k us) (hg : w.grownBy w' ov.ownBlock) (hSD : SS < D) (hMD : M < D) : SSt w' D SS M n ix r P fv fs := by
  obtain ⟨mk, h1, h2, h3, h4, h5, h6, h7, h8, h9, h10⟩ := h
  have hne : ∀ k, k < D → some k ≠ ov.ownBlock := fun k hk h => by have := (ho.lt k h.symm).1; omega
  refine ⟨mk, h1, h2, h3, h4, h5, h6, h7, ?_, ?_, ?_⟩
  · unfold Blk; rw [hg.block SS h8.lt (hne _ hSD)]; exact h8
  · unfold Blk; rw [hg.block M h9.lt (hne _ hMD)]; exact h9
  · refine ownsRow_of h10 (fun g hgg => hg.block g (h10.lt g hgg).2 (fun he => ?_))
    obtain ⟨c1, e1⟩ := ownsRow_block h10 hgg
    obtain ⟨c2, e2⟩ := ownsRow_block ho he.symm
    rw [e1] at e2
    simp at e2

set_option maxHeartbeats 4000000 in
set_option maxRecDepth 100000 in
theorem ases_walk (C D SS M n k : Nat) (ix : Value) (r : Int) (P : Nat → Nat) (fv : Value) (TA os : List Int) (TS : List Nat) (A : Nat → List Int) (S : Nat → List Nat) (tav tsv ov : Value) (limit : Int) (w : World)
    (hI : Idle w D SS M n ix r fv) (hSM : SS ≠ M) (hSD : SS < D) (hMD : M < D) (hCS : C ≤ SS) (hCM : C ≤ M) (hD : D ≤ w.heap.size) (hn : n ≤ 256)
    (hst : Stat C w n P A S) (hA : ∀ i, i < n → (A i).length ≤ 256) (hS : ∀ i, i < n → (S i).length ≤ 256) (hSn : ∀ i, i < n → ∀ y ∈ S i, y < n)
    (hTA : TA.length ≤ 256) (hTS : TS.length ≤ 256) (hTn : ∀ y ∈ TS, y < n) (hra : Row C w tav (TA.map (Value.int .u32))) (hrs : Row C w tsv (TS.map (pt P)))
    (hk : k ≤ 256) (ho : w.ownsRow D 25 1 ov k (os.map (Value.int .u32))) :
    Calls Yba.prog 11 #[.pointer (some ⟨SS, 0, none⟩), .agg #[tav, tsv, .bool false], .int .i64 limit, ov] w (AsesPost D SS M n k ix TA os TS A S limit w) := by
  obtain ⟨oa, oc, rfl⟩ := own_slice ho
  obtain ⟨ta, tc, rfl, hra'⟩ := id hra
  obtain ⟨sa, sc, rfl, hrs'⟩ := id hrs
  simp only [List.length_map] at *
  have hLb : Blk (w.alloc (.cells #[.slice ta TA.length tc, .slice sa TS.length sc, .bool false] 29)) w.heap.size 29 [.slice ta TA.length tc, .slice sa TS.length sc, .bool false] := Blk.new w 29 _
  have hI2 : Idle (w.alloc (.cells #[.slice ta TA.length tc, .slice sa TS.length sc, .bool false] 29)) D SS M n ix r fv := by
    obtain ⟨mk, k', us, h1, h2, h3, h4, h5, h6, h7⟩ := hI
    exact ⟨mk, k', us, h1, h2, h3, h4, h5.alloc _, h6.alloc _, h7.alloc _⟩
  have hF2 : Fr D SS M w (w.alloc (.cells #[.slice ta TA.length tc, .slice sa TS.length sc, .bool false] 29)) := (Fr.refl _ _ _ _).alloc hD _
  have ho2 := ho.alloc (.cells #[.slice ta TA.length tc, .slice sa TS.length sc, .bool false] 29)
  by_cases hlim : (TA.length : Int) + TS.length > limit
  · have HR : Hid (AsesPost D SS M n k ix TA os TS A S limit w (.returned (.tuple #[.slice oa k oc, .bool false])) (w.alloc (.cells #[.slice ta TA.length tc, .slice sa TS.length sc, .bool false] 29))) := hide (by
      refine ⟨_, false, rfl, hF2, ⟨r, fv, hI2⟩, (fun h => by cases h), fun _ => ⟨?_, Row.ofOwns ho2⟩⟩
      unfold total
      omega)
    clear hI hI2 hF2 ho ho2 hst hA hS hSn hTn hra hrs hra' hrs' hLb
    go_enter Yba.func11, Yba.ntmps11
    go_wp2_with fail
    go_ret2
    exact HR.out
  · have hlim2 : ¬ ((TA.length : Int) + TS.length > limit) := hlim
    have HLIM := hide hlim
    have HSTART := hide (start_walk D SS M n ix r P fv _ hI2 hSM hSD hMD)
    have HST := hide hst
    have HO := hide ho2
    have HF := hide hF2
    have HLB := hide hLb
    have HRA := hide hra
    have HRS := hide hrs
    have HA := hide hA
    have HS := hide hS
    have HSN := hide hSn
    have HTN := hide hTn
    clear hI hI2 hF2 ho ho2 hst hA hS hSn hTn hra hrs hra' hrs' hLb hlim
    go_enter Yba.func11, Yba.ntmps11
    go_wp2_with fail
    refine HSTART.out.mono ?_
    rintro e w1 ⟨rfl, hf1, hk1, r', fv1, hs1⟩
    have HF1 := hide (HF.out.trans hf1)
    have HO1 := hide (hk1.row (by decide) HO.out)
    have HLB1 := hide (hk1.blk (by decide) hD HLB.out)
    have HS1 := hide hs1
    clear hf1 hk1 hs1 HSTART HF HO HLB
    have c0 : w1.cell? ⟨w.heap.size, 0, none⟩ = some (.slice ta TA.length tc) := HLB1.out.cell (i := 0) (by simp)
    have c1 : w1.cell? ⟨w.heap.size, 1, none⟩ = some (.slice sa TS.length sc) := HLB1.out.cell (i := 1) (by simp)
    go_wp2_with fail
    go_loopw [34] (fun iv wr => ∃ (j : Nat) (fvj : Value), j ≤ TS.length ∧ iv = .int .i64 j ∧ Fr D SS M w wr ∧ wr.ownsRow D 25 1 (.slice oa k oc) k (os.map (Value.int .u32)) ∧ Blk wr w.heap.size 29 [.slice ta TA.length tc, .slice sa TS.length sc, .bool false] ∧ SSt wr D SS M n ix r' P fvj (adds [] (TS.take j))) (fun iv _ => TS.length - (intOf iv).toNat)
    case atStart => exact ⟨0, fv1, Nat.zero_le _, rfl, HF1.out, HO1.out, HLB1.out, by simpa [adds] using HS1.out⟩
    case round =>
      obtain ⟨j, fvj, hj, rfl, hfj, hoj, hlj, hsj⟩ := hrel
      clear c0 c1
      by_cases hlt : j < TS.length
      · have hbe := hfj.below hCS hCM (Nat.le_trans hCS (Nat.le_of_lt hSD))
        have hrs := HRS.out.below hbe
        obtain ⟨b, off, c, hv, hb, hc⟩ := hrs.at (by simpa using Nat.lt_of_le_of_lt (Nat.zero_le _) hlt)
        simp only [List.length_map, Value.slice.injEq] at hv
        obtain ⟨rfl, _, rfl⟩ := hv
        have hcj := hc j (by simpa using hlt)
        simp only [List.getElem_map, pt] at hcj
        obtain ⟨x, hx⟩ : ∃ x, x = TS[j] := ⟨_, rfl⟩
        have hxn : x < n := hx ▸ HTN.out _ (List.getElem_mem hlt)
        have HADD := hide (adds_take [] TS j hlt)
        rw [← hx] at hcj HADD
        have hpx := ((HST.out.below hbe) x hxn).2.1
        have HM := hide (meet_walk D SS M n x ix r' P fvj (adds [] (TS.take j)) wr hxn hn hpx hsj hSM hSD hMD (Nat.le_trans hD hfj.size))
        have hj1 : (j : Int) < (TS.length : Int) := by omega
        have HFJ := hide hfj
        have HOJ := hide hoj
        have HLJ := hide hlj
        clear hfj hoj hlj hsj hbe hrs hc hx hpx
        go_wp2_with fail
        refine HM.out.mono ?_
        rintro e w2 ⟨rfl, hf2, hk2, fv2, hs2⟩
        have HS2 := hide hs2
        have HK2 := hide hk2
        have HF2 := hide hf2
        clear hs2 hk2 hf2 HM
        go_wp2_with fail
        go_roundw
        case rel => exact ⟨j + 1, fv2, by omega, by go_num, HFJ.out.trans HF2.out, HK2.out.row (by decide) HOJ.out, HK2.out.blk (by decide) hD HLJ.out, by rw [HADD.out]; exact HS2.out⟩
        case measure => simp [intOf]; omega
      · obtain rfl : j = TS.length := by omega
        rw [List.take_length] at hsj
        have hbe := hfj.below hCS hCM (Nat.le_trans hCS (Nat.le_of_lt hSD))
        have c0 : wr.cell? ⟨w.heap.size, 0, none⟩ = some (.slice ta TA.length tc) := hlj.cell (i := 0) (by simp)
        obtain ⟨i0, hi0, hz0, hz1, hz2⟩ := info_parts info25
        have HRAJ := hide (HRA.out.below hbe)
        have HOJ := hide hoj
        have HFJ := hide hfj
        have HSJ := hide hsj
        have hws := hfj.size
        clear hfj hlj hsj hbe hoj
        go_wp2_with (at_builtin; refine append_row rfl (.tmp 42) (.tmp 44) 23 rfl D 25 i0 (.int .u32 0) 4 Yba.underlying23 hi0 hz0 hz1 hz2 rfl (.slice oa k oc) k (os.map (Value.int .u32)) rfl HOJ.out C (.slice ta TA.length tc) (TA.map (Value.int .u32)) rfl HRAJ.out (by simp [Value.oneCell']) (by unfold maxLen; simp; omega) (by simp; omega) (by omega) ?_; intro oa3 oc3 w3 hown3 hgrow3; have HO3 := hide hown3; have HG3 := hide hgrow3; clear hown3 hgrow3)
        have HS3 := hide (HSJ.out.grown HOJ.out HG3.out hSD hMD)
        have HF3 := hide (HFJ.out.grown HG3.out (by omega) (fun g hg => (HOJ.out.lt g hg).1))
        simp only [List.length_map] at HO3 ⊢
        clear HSJ HG3 HFJ HOJ HRAJ c0 hlt hj HF1 HO1 HLB1 HS1
        go_loopw [3, 13] (fun ovv iv wr => ∃ (i L : Nat) (fs : List Nat) (fvj : Value) (oai : Option Addr) (oci : Nat), i ≤ fs.length ∧ iv = .int .i64 i ∧ ovv = .slice oai L oci ∧ L = k + TA.length + ((fs.take i).flatMap A).length ∧ Fr D SS M w wr ∧ wr.ownsRow D 25 1 (.slice oai L oci) L ((os ++ TA ++ (fs.take i).flatMap A).map (Value.int .u32)) ∧ SSt wr D SS M n ix r' P fvj fs ∧ Inv TS S fs i) (fun _ iv _ => n - (intOf iv).toNat)
        case atStart => exact ⟨0, k + TA.length, adds [] TS, _, oa3, oc3, Nat.zero_le _, rfl, rfl, by simp, HF3.out, by simpa using HO3.out, HS3.out, Inv.first TS S⟩
        case round =>
          obtain ⟨i, L, fs, fvi, oai, oci, hi, rfl, rfl, hL, hfi, hoi, hsi, hinv⟩ := hrel
          clear HO3 HS3 HF3
          have HSI := hide hsi
          obtain ⟨mk, hml, hr0, hr1, hmr, hmf, hnd, hfn, hbS, hbM, hown⟩ := hsi
          have hfl := nodup_len hnd hfn
          have hflat : ((fs.take i).flatMap A).length ≤ n * 256 := flat_le (hnd.sublist (List.take_sublist _ _)) (fun x hx => hfn x (List.mem_of_mem_take hx)) HA.out
          have hLb : L ≤ 66048 := by
            have := Nat.mul_le_mul_right 256 hn
            omega
          obtain ⟨fa, fc, rfl⟩ := own_slice hown
          have c4 : wr.cell? ⟨SS, 4, none⟩ = some (.slice fa fs.length fc) := hbS.cell (i := 4) (by simp)
          have hbe := hfi.below hCS hCM (Nat.le_trans hCS (Nat.le_of_lt hSD))
          have hws := hfi.size
          have HFI := hide hfi
          have HOI := hide hoi
          have HINV := hide hinv
          have HLE := hide hL
          have HFN := hide hfn
          have HND := hide hnd
          clear hfi hoi hinv hL hfn hmr hmf hbS hbM hml hnd
          by_cases hlt : i < fs.length
          · obtain ⟨F, fc', hfa⟩ := own_form hown (by omega)
            simp only [Value.slice.injEq] at hfa
            obtain ⟨rfl, _, rfl⟩ := hfa
            have hcf := hown.cells (g := F) rfl i (pt P fs[i]) (by simp [List.getElem?_eq_getElem hlt])
            rw [add_plain, Nat.zero_add] at hcf
            obtain ⟨x, hx⟩ : ∃ x, x = fs[i] := ⟨_, rfl⟩
            have hxn : x < n := hx ▸ HFN.out _ (List.getElem_mem hlt)
            have HWORK := hide (work_le (A := A) (S := S) HND.out HFN.out hlt TA.length TS.length)
            have HNEXT := hide (HINV.out.next hlt)
            have HTAKE := hide (adds_takeA A S fs i hlt)
            rw [← hx] at hcf HWORK HNEXT HTAKE
            simp only [pt] at hcf
            obtain ⟨hPC, hp1, av, sv, hp5, hp6, hRA, hRS⟩ := HST.out x hxn
            rw [← hbe.cell (p := ⟨P x, 1, none⟩) hPC] at hp1
            rw [← hbe.cell (p := ⟨P x, 5, none⟩) hPC] at hp5
            rw [← hbe.cell (p := ⟨P x, 6, none⟩) hPC] at hp6
            replace hRA := hRA.below hbe
            obtain ⟨xa, xac, rfl, _⟩ := id hRA
            obtain ⟨xs, xsc, rfl, _⟩ := id hRS
            simp only [List.length_map] at hp5 hp6 hRA hRS
            have hAx := HA.out x hxn
            have hSx := HS.out x hxn
            have hi1 : (i : Int) < (fs.length : Int) := by omega
            have hi0 : (0 : Int) ≤ (i : Int) := by omega
            have HRAX := hide hRA
            have HRSX := hide hRS
            have HX := hide hx
            clear hx hRA hRS hown hbe
            by_cases hlm : limit < (fs.length : Int) + (L : Int) - (k : Int) + ((A x).length : Int) + ((S x).length : Int)
            · obtain ⟨gv, hgv⟩ : ∃ gv : Value, (oai = none ∧ L = 0 ∧ oci = 0 ∧ gv = .slice none 0 0) ∨ ∃ g, oai = some ⟨g, 0, none⟩ ∧ L ≤ oci ∧ gv = .slice (some ⟨g, 0, none⟩) k oci := by
                rcases HOI.out.2 with ⟨h, h'⟩ | ⟨g, cap, cur, h, _, _, h', _⟩
                · cases h; exact ⟨_, .inl ⟨rfl, rfl, rfl, rfl⟩⟩
                · cases h; exact ⟨_, .inr ⟨g, rfl, h', rfl⟩⟩
              have hkL : k ≤ L := by have := HLE.out; omega
              have HE : Hid (∀ q, AsesPost D SS M n k ix TA os TS A S limit w (.returned (.tuple #[gv, .bool false])) (wr.drewN q)) := hide (by
                intro q
                refine ⟨_, false, rfl, HFI.out.drewN q, ⟨_, _, HSI.out.idle⟩, (fun h => by cases h), fun _ => ⟨?_, ?_⟩⟩
                · have h1 := HWORK.out
                  have h2 := HLE.out
                  omega
                · show Row wr.heap.size wr gv (os.map (Value.int .u32))
                  have hr := Row.ofOwns HOI.out
                  have hol : os.length = k := by have := HOI.out.1; have h2 := HLE.out; simp only [List.length_map, List.length_append, Nat.mul_one] at this; omega
                  rcases hgv with ⟨rfl, h0, rfl, rfl⟩ | ⟨g, rfl, hLc, rfl⟩
                  · have : os = [] := List.eq_nil_of_length_eq_zero (by omega)
                    rw [this]; exact Row.nil _ _
                  · obtain ⟨ao, c, hv, _, hc⟩ := hr
                    simp only [Value.slice.injEq] at hv
                    obtain ⟨rfl, _, rfl⟩ := hv
                    refine ⟨some ⟨g, 0, none⟩, oci, by simp [hol], (fun h => by cases h), fun y hy j u hu => ?_⟩
                    refine hc y hy j u ?_
                    have hjl : j < (os.map (Value.int .u32)).length := by
                      by_cases hjl : j < (os.map (Value.int .u32)).length
                      · exact hjl
                      · rw [List.getElem?_eq_none (by omega)] at hu; cases hu
                    rw [List.append_assoc, List.map_append, List.getElem?_append_left hjl]
                    exact hu)
              clear HSI HFI HOI HINV HLE HFN HND HWORK HNEXT HTAKE HRAX HRSX
              rcases hgv with ⟨rfl, h0, rfl, rfl⟩ | ⟨g, rfl, hLc, rfl⟩
              · subst h0
                obtain rfl : k = 0 := by omega
                go_wp2_with fail
                go_quiet (fail)
                go_wp2_with fail
                go_ret2
                exact HE.out _
              · go_wp2_with fail
                go_quiet (fail)
                go_wp2_with fail
                go_ret2
                exact HE.out _
            · obtain ⟨i0, hi0', hz0, hz1, hz2⟩ := info_parts info25
              go_wp2_with fail
              go_quiet (fail)
              go_wp2_with (at_builtin; refine append_row rfl (.tmp 91) (.tmp 96) 23 rfl D 25 i0 (.int .u32 0) 4 Yba.underlying23 hi0' hz0 hz1 hz2 rfl (.slice oai L oci) L ((os ++ TA ++ (fs.take i).flatMap A).map (Value.int .u32)) rfl (by exact HOI.out) C (.slice xa (A x).length xac) ((A x).map (Value.int .u32)) rfl (by exact HRAX.out) (by simp [Value.oneCell']) (by unfold maxLen; simp; omega) (by simp; omega) (by simp; omega) ?_; intro oa4 oc4 w4 hown4 hgrow4; have HO4 := hide hown4; have HG4 := hide hgrow4; have d5 : w4.cell? ⟨P x, 5, none⟩ = some (.slice xa (A x).length xac) := (((Below.refl D wr).grown (w := wr) (row := (Value.slice oai L oci).ownBlock) ⟨HG4.out.os, HG4.out.tape, HG4.out.output, HG4.out.size, HG4.out.block⟩ (by omega) (fun g hg => (HOI.out.lt g hg).1)).cell (p := ⟨P x, 5, none⟩) (show P x < D by omega)).trans hp5; have d6 : w4.cell? ⟨P x, 6, none⟩ = some (.slice xs (S x).length xsc) := (((Below.refl D wr).grown (w := wr) (row := (Value.slice oai L oci).ownBlock) ⟨HG4.out.os, HG4.out.tape, HG4.out.output, HG4.out.size, HG4.out.block⟩ (by omega) (fun g hg => (HOI.out.lt g hg).1)).cell (p := ⟨P x, 6, none⟩) (show P x < D by omega)).trans hp6; clear hown4 hgrow4)
              have HS4 := hide (SSt.grown (w := wr.drewN nq) (by exact HSI.out) (by exact HOI.out) HG4.out hSD hMD)
              have HF4 := hide ((HFI.out.drewN nq).grown HG4.out (by simp; omega) (fun g hg => (HOI.out.lt g hg).1))
              simp only [List.length_map, ← List.map_append] at HO4 ⊢
              clear HSI HFI HOI HG4 hp1 hp5 hp6 HRAX hcf c4 d5 d6 hws
              go_loopw [104] (fun jv wj => ∃ (j : Nat) (fvj : Value), j ≤ (S x).length ∧ jv = .int .i64 j ∧ Fr D SS M w wj ∧ wj.ownsRow D 25 1 (.slice oa4 (L + (A x).length) oc4) (L + (A x).length) ((os ++ TA ++ (fs.take i).flatMap A ++ A x).map (Value.int .u32)) ∧ SSt wj D SS M n ix r' P fvj (adds fs ((S x).take j))) (fun jv _ => (S x).length - (intOf jv).toNat)
              case atStart => exact ⟨0, _, Nat.zero_le _, rfl, HF4.out, by exact HO4.out, by simpa [adds] using HS4.out⟩
              case round =>
                obtain ⟨j, fvj, hj, rfl, hfj, hoj, hsj⟩ := hrel
                clear HF4 HO4 HS4
                by_cases hltj : j < (S x).length
                · have hbe := hfj.below hCS hCM (Nat.le_trans hCS (Nat.le_of_lt hSD))
                  have hrs := HRSX.out.below hbe
                  obtain ⟨b, off, c, hv, hb, hc⟩ := hrs.at (by simpa using Nat.lt_of_le_of_lt (Nat.zero_le _) hltj)
                  simp only [List.length_map, Value.slice.injEq] at hv
                  obtain ⟨rfl, _, rfl⟩ := hv
                  have hcj := hc j (by simpa using hltj)
                  simp only [List.getElem_map, pt] at hcj
                  obtain ⟨y, hy⟩ : ∃ y, y = (S x)[j] := ⟨_, rfl⟩
                  have hyn : y < n := hy ▸ HSN.out x hxn _ (List.getElem_mem hltj)
                  have HADD := hide (adds_take fs (S x) j hltj)
                  rw [← hy] at hcj HADD
                  have hpy := ((HST.out.below hbe) y hyn).2.1
                  have HM := hide (meet_walk D SS M n y ix r' P fvj (adds fs ((S x).take j)) wr hyn hn hpy hsj hSM hSD hMD (Nat.le_trans hD hfj.size))
                  have hj1 : (j : Int) < ((S x).length : Int) := by omega
                  have HFJ := hide hfj
                  have HOJ := hide hoj
                  clear hfj hoj hsj hbe hrs hc hy hpy
                  go_wp2_with fail
                  refine HM.out.mono ?_
                  rintro e w2 ⟨rfl, hf2, hk2, fv2, hs2⟩
                  have HS2 := hide hs2
                  have HK2 := hide hk2
                  have HF2 := hide hf2
                  clear hs2 hk2 hf2 HM
                  go_wp2_with fail
                  go_roundw
                  case rel => exact ⟨j + 1, fv2, by omega, by go_num, HFJ.out.trans HF2.out, HK2.out.row (by decide) HOJ.out, by rw [HADD.out]; exact HS2.out⟩
                  case measure => simp [intOf]; omega
                · obtain rfl : j = (S x).length := by omega
                  rw [List.take_length] at hsj
                  have hjj : ¬ (((S x).length : Int) < ((S x).length : Int)) := by omega
                  have hpre : i + 1 ≤ (adds fs (S x)).length := by
                    obtain ⟨t, ht⟩ := adds_pre (S x) fs
                    rw [ht, List.length_append]
                    omega
                  have HFJ := hide hfj
                  have HOJ := hide hoj
                  have HSJ := hide hsj
                  clear hfj hoj hsj
                  go_wp2_with fail
                  go_roundw
                  case rel =>
                    refine ⟨i + 1, L + (A x).length, adds fs (S x), fvj, oa4, oc4, hpre, by go_num, rfl, ?_, HFJ.out, ?_, HSJ.out, HNEXT.out⟩
                    · rw [HTAKE.out, HLE.out, List.length_append]; omega
                    · rw [HTAKE.out]
                      have := HOJ.out
                      simpa only [List.append_assoc] using this
                  case measure => simp [intOf]; omega
          · obtain rfl : i = fs.length := by omega
            have HE : Hid (AsesPost D SS M n k ix TA os TS A S limit w (.returned (.tuple #[.slice oai L oci, .bool true])) wr) := hide (by
              refine ⟨_, true, rfl, HFI.out, ⟨_, _, HSI.out.idle⟩, fun _ => ⟨fs, HND.out, HFN.out, HINV.out.done, by have := HLIM.out; omega, ?_⟩, (fun h => by cases h)⟩
              have h1 := HOI.out
              have h2 := HLE.out
              rw [List.take_length] at h1 h2
              rw [← h2]
              exact h1)
            have hge : ¬ ((fs.length : Int) < (fs.length : Int)) := by omega
            clear HSI hown hbe HFI HOI HINV HLE HFN HND
            go_wp2_with fail
            go_ret2
            exact HE.out
end Go.Proofs.Ybulkbte
