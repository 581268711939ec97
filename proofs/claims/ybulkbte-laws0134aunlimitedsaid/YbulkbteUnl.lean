/- LawS0134AUnlimited: the walk. -/
import Derived.Test.YbulkbteLawA
namespace Go.Proofs.Ybulkbte
open Go.RowKit Go.WideShapes

set_option maxHeartbeats 8000000 in
set_option maxRecDepth 100000 in
theorem unl_walk (n : Nat) (A Sb : Nat → List Int) (TA Tb os : List Int) (sv tav tsv ov : Value) (r : Int) (w : World) (hr0 : 0 ≤ r) (hr1 : r ≤ 4294967295)
    (hin : InSets w.heap.size w sv n A Sb) (hra : Row w.heap.size w tav (TA.map (Value.int .u32))) (hrs : Row w.heap.size w tsv (Tb.map (Value.int .u8))) (hro : Row w.heap.size w ov (os.map (Value.int .u32)))
    (hb8 : ∀ i, i < n → ∀ b ∈ Sb i, 0 ≤ b ∧ b ≤ 255) (ht8 : ∀ b ∈ Tb, 0 ≤ b ∧ b ≤ 255) :
    Calls Yba.prog 3 #[sv, tav, tsv, ov, .int .u32 r] w fun e w' => e = .returned (.bool true) ∧ Below w.heap.size w w' := by
  obtain ⟨so, sc, rfl, -⟩ := id hin
  obtain ⟨ta, tc, rfl, -⟩ := id hra
  obtain ⟨ts, tsc, rfl, -⟩ := id hrs
  obtain ⟨oa, oc, rfl, -⟩ := id hro
  simp only [List.length_map] at *
  have HGU := hide (guard_walk w.heap.size n TA.length Tb.length os.length A Sb (.slice so n sc) ta ts oa tc tsc oc w hin)
  have HIN := hide hin
  have HRA := hide hra
  have HRS := hide hrs
  have HRO := hide hro
  have HB8 := hide hb8
  have HT8 := hide ht8
  clear hin hra hrs hro hb8 ht8
  go_enter Yba.func3, Yba.ntmps3
  go_wp2_with fail
  refine HGU.out.mono ?_
  rintro e w0 ⟨b, rfl, hw0, hb⟩
  have hw2 := hw0.symm
  clear hw0
  subst hw2
  cases b
  · clear hb HGU
    go_wp2_with fail
    go_ret
    exact ⟨rfl, Below.refl _ _⟩
  obtain ⟨hn, hTA, hTb, hos, hAS⟩ := hb rfl
  clear hb HGU
  have HAS := hide hAS
  clear hAS
  have HBU := hide (build_walk w.heap.size n A Sb TA Tb (.slice so n sc) (.slice ta TA.length tc) (.slice ts Tb.length tsc) w (Nat.le_refl _) hn HIN.out HRA.out HRS.out (fun i hi => (HAS.out i hi).1) (fun i hi => (HAS.out i hi).2) HB8.out hTA hTb HT8.out)
  go_wp2_with fail
  refine HBU.out.mono ?_
  rintro e w1 ⟨G, P, tav2, tsv2, rfl, hb1, hst1, hra1, hrs1⟩
  obtain ⟨ta2, tc2, rfl, -⟩ := id hra1
  obtain ⟨ts2, tsc2, rfl, -⟩ := id hrs1
  simp only [List.length_map] at *
  have HB1 := hide hb1
  have HST1 := hide hst1
  have HRA1 := hide hra1
  have HRS1 := hide hrs1
  have hs1 := hb1.size
  clear hb1 hst1 hra1 hrs1 HBU
  go_wp2_with fail
  obtain ⟨W2, hW2⟩ : ∃ W2, W2 = ((w1.alloc (.cells #[.slice ta2 TA.length tc2, .slice ts2 (tops n Tb).length tsc2, .bool false] 29)).alloc (.cells #[.slice (some ⟨G, 0, none⟩) n n, .map none, .slice none 0 0] 38)) := ⟨_, rfl⟩
  rw [← hW2]
  have HB2 : Hid (Below w1.heap.size w1 W2) := hide (hW2 ▸ (((Below.refl w1.heap.size w1).alloc (Nat.le_refl _) _).alloc (by simp) _))
  have hsz2 : W2.heap.size = w1.heap.size + 2 := by rw [hW2]; simp
  have HTP : Hid (Blk W2 w1.heap.size 29 [.slice ta2 TA.length tc2, .slice ts2 (tops n Tb).length tsc2, .bool false]) := hide (by
    rw [hW2]; exact (Blk.new w1 29 _).alloc _)
  have hX : W2.cell? ⟨w1.heap.size + 1, 0, none⟩ = some (.slice (some ⟨G, 0, none⟩) n n) := by
    have h1 := Blk.new (w1.alloc (.cells #[.slice ta2 TA.length tc2, .slice ts2 (tops n Tb).length tsc2, .bool false] 29)) 38 [.slice (some ⟨G, 0, none⟩) n n, .map none, .slice none 0 0]
    rw [← hW2] at h1
    have h2 := h1.cell (i := 0) (by simp)
    simpa using h2
  have HNEW := hide (new_walk (w1.heap.size + 1) n n (some ⟨G, 0, none⟩) W2 hn hX)
  have HSZ2 := hide hsz2
  clear hsz2 hX hW2
  refine HNEW.out.mono ?_
  rintro e w3 ⟨SS, rfl, hSS, hb3, hbS, hbM⟩
  have c2 : w3.cell? ⟨SS, 2, none⟩ = some (.int .u32 0) := hbS.cell (i := 2) (by simp)
  have f2 := hbS.frozen 2
  obtain ⟨M, hM⟩ : ∃ M, M = W2.heap.size := ⟨_, rfl⟩
  rw [← hM] at hSS hbM hbS
  have hMC : w1.heap.size + 2 = M := by rw [hM, HSZ2.out]
  have HS3 := hide (hbS.set 2 (.int .u32 r))
  have HM3 := hide (hbM.other (p := ⟨SS, 2, none⟩) (.int .u32 r) (show M ≠ SS by omega))
  have hlt3 := hbS.lt
  have HB4 : Hid (Below M W2 (w3.setCell ⟨SS, 2, none⟩ (.int .u32 r))) := hide ((hM ▸ hb3 : Below M W2 w3).setCell (p := ⟨SS, 2, none⟩) (show M ≤ SS by omega) _)
  have hsz4 : (w3.setCell ⟨SS, 2, none⟩ (.int .u32 r)).heap.size = w3.heap.size := by simp
  have HSZ4 := hide hsz4
  have HMC := hide hMC
  clear hbS hbM hb3 hM HNEW hMC hsz4
  go_wp2_with fail
  generalize hw4 : w3.setCell ⟨SS, 2, none⟩ (.int .u32 r) = w4 at *
  clear hw4 c2 f2
  have hmc := HMC.out
  have HB14 : Hid (Below w1.heap.size w1 w4) := hide (HB2.out.trans (HB4.out.mono (by omega)))
  have HB04 : Hid (Below w.heap.size w w4) := hide (HB1.out.trans (HB14.out.mono hs1))
  have HMO := hide (model_walk w.heap.size n A Sb TA Tb (.slice so n sc) (.slice ta TA.length tc) (.slice ts Tb.length tsc) w4 HB04.out.size hn (HIN.out.below HB04.out) (HRA.out.below HB04.out) (HRS.out.below HB04.out) (fun i hi => (HAS.out i hi).1) (fun i hi => (HAS.out i hi).2) HB8.out hTA hTb HT8.out)
  refine HMO.out.mono ?_
  rintro e w5 ⟨ev, rs, rfl, hb5, hrs5, hrow5, hne5⟩
  obtain ⟨D, hD⟩ : ∃ D, D = w5.heap.size := ⟨_, rfl⟩
  have hs4 : SS < w4.heap.size := by have := HSZ4.out; omega
  have hs5 := hb5.size
  have hSD : SS < D := by omega
  have hMD : M < D := by omega
  have hSM : SS ≠ M := by omega
  have hCS : w1.heap.size ≤ SS := by omega
  have hCM : w1.heap.size ≤ M := by omega
  have HI5 : Hid (Idle w5 D SS M n (.pointer (some ⟨w1.heap.size + 1, 0, none⟩)) r (.slice none 0 0)) := hide (by
    refine ⟨List.replicate n 0, 0, [], by simp, hr0, hr1, fun i hi => by simp [hi, hr0], ?_, HM3.out.below hb5 (by omega), World.ownsRow_nil _ _ _ _⟩
    exact HS3.out.below hb5 hs4)
  have HB15 : Hid (Below w1.heap.size w1 w5) := hide (HB14.out.trans (hb5.mono (by omega)))
  have HB05 : Hid (Below w.heap.size w w5) := hide (HB04.out.trans (hb5.mono HB04.out.size))
  have HST5 := hide (HST1.out.below HB15.out)
  have HRA5 := hide (HRA1.out.below HB15.out)
  have HRS5 := hide (HRS1.out.below HB15.out)
  have HTP5 := hide ((HTP.out.below HB4.out (by omega)).below hb5 (by omega))
  have HRO5 := hide (HRO.out.below HB05.out)
  have HEX : Hid (Row D w5 ev ((srt (TA ++ ((List.range n).filter rs).flatMap A)).map (Value.int .u32))) := hide (hD ▸ hrow5)
  have HNE : Hid (∀ g, ev.ownBlock = some g → g ≠ SS ∧ g ≠ M) := hide (fun g hg => by have := hne5 g hg; omega)
  have HRE := hide hrs5
  have hDs : D ≤ w5.heap.size := Nat.le_of_eq hD
  obtain ⟨ea, ec, rfl, -⟩ := id hrow5
  have HLX : Hid ((srt (TA ++ ((List.range n).filter rs).flatMap A)).length ≤ 66048) := hide (by
    rw [srt_length, List.length_append]
    have h1 : (((List.range n).filter rs).flatMap A).length ≤ n * 256 := flat_le (List.nodup_range.sublist List.filter_sublist) (fun x hx => by simpa using (List.mem_filter.1 hx).1) (fun i hi => (HAS.out i hi).1)
    have h2 := Nat.mul_le_mul_right 256 hn
    omega)
  simp only [List.length_map] at *
  generalize hlx : (srt (TA ++ ((List.range n).filter rs).flatMap A)).length = lx at *
  clear hlx
  clear hb5 hrs5 hrow5 hne5 hD hs4 hs5 HMO HB14 HB04 HS3 HM3 HB4 HB2 HTP HSZ2 HSZ4 HMC HRO HIN HRA HRS HRA1 HRS1 HST1 hlt3
  go_wp2_with fail
  go_loopw [15] (fun kv wr => ∃ (kk : Nat) (r' : Int) (fv : Value), kk ≤ 2 ∧ kv = .int .i64 kk ∧ Idle wr D SS M n (.pointer (some ⟨w1.heap.size + 1, 0, none⟩)) r' fv ∧ Fr D SS M w5 wr) (fun kv _ => 2 - (intOf kv).toNat)
  case atStart => exact ⟨0, r, _, by omega, rfl, HI5.out, Fr.refl _ _ _ _⟩
  case round =>
    rename World => wo
    obtain ⟨kk, r', fv, hkk, rfl, hI, hF⟩ := hrel
    clear HI5
    have hwo := hF.size
    by_cases hlt : kk < 2
    · have hkz : (kk : Int) < 2 := by omega
      have hbo := hF.below hCS hCM (Nat.le_trans hCS (Nat.le_of_lt hSD))
      have HIW := hide hI
      have HFW := hide hF
      have HST := hide (HST5.out.below hbo)
      have HRAW := hide (HRA5.out.below hbo)
      have HRSW := hide (HRS5.out.below hbo)
      have HTPW := hide (HTP5.out.fr hF (by omega) (by omega) (by omega))
      have HROW := hide (HRO5.out.below (hbo.mono hs1))
      have HEXW := hide (HEX.out.fr hF HNE.out)
      clear hI hF hbo
      obtain ⟨i0, hi0, hz0, hz1, hz2⟩ := info_parts info25
      go_wp2_with (at_make; refine wpList_make_full _ rfl (.tmp 49) (.tmp 49) 23 rfl D 25 i0 (.int .u32 0) 1 Yba.underlying23 hi0 hz0 hz1 .i64 .i64 _ _ os.length rfl rfl (by omega) (by omega) (by rw [hz2]; omega) (by unfold maxLen; omega) (by omega) ?_; intro w6 hown hgrow; have hb6 := (Below.refl wo.heap.size wo).grown hgrow (Nat.le_refl _) (fun k hk => by cases hk); obtain ⟨w7, hcp, hbk7, hb67⟩ := cp_any (s0 := wo.heap.size) (k := os.length) (os := os) rfl (by have := hown.1; simpa using this) (Blk.ofOwns hown) (HROW.out.below (hb6.mono (by omega))); have hb7 := hb6.trans hb67; have HB7 := hide hb7; have HK7 := hide hbk7; have HTP7 := hide (HTPW.out.below hb7 (by omega)); have d0 : w7.cell? ⟨w1.heap.size, 0, none⟩ = some (.slice ta2 TA.length tc2) := HTP7.out.cell (i := 0) (by simp); have d1 : w7.cell? ⟨w1.heap.size, 1, none⟩ = some (.slice ts2 (tops n Tb).length tsc2) := HTP7.out.cell (i := 1) (by simp); have d2 : w7.cell? ⟨w1.heap.size, 2, none⟩ = some (.bool false) := HTP7.out.cell (i := 2) (by simp); clear hown hgrow hb6 hbk7 hb67 hb7)
      have hw7 := HB7.out.size
      have HAW := hide (ases_walk w1.heap.size D SS M n os.length (.pointer (some ⟨w1.heap.size + 1, 0, none⟩)) r' P fv TA os (tops n Tb) A (fun i => ixs n (Sb i)) (.slice ta2 TA.length tc2) (.slice ts2 (tops n Tb).length tsc2) (.slice (some ⟨wo.heap.size, 0, none⟩) os.length os.length) 1099511627776 w7
        (HIW.out.below HB7.out) hSM hSD hMD hCS hCM (by omega) hn (HST.out.below (HB7.out.mono (by omega))) (fun i hi => (HAS.out i hi).1) (fun i hi => by simpa [ixs] using (HAS.out i hi).2) (fun i hi => ixs_lt (by omega)) hTA (Nat.le_trans (tops_len n Tb) hTb) tops_lt
        (HRAW.out.below (HB7.out.mono (by omega))) (HRSW.out.below (HB7.out.mono (by omega))) hos (blk_owns HK7.out (by simp) (by omega) (by unfold maxLen; omega)))
      refine HAW.out.mono ?_
      rintro e w8 ⟨gv, ok, rfl, hf8, ⟨r8, fv8, hi8⟩, hT, hFa⟩
      cases ok
      · exfalso
        refine absurd (hFa rfl).1 (Int.not_lt.2 (Int.le_trans (Int.ofNat_le.2 (total_le hn hTA (Nat.le_trans (tops_len n Tb) hTb) (fun i hi => (HAS.out i hi).1) (fun i hi => by simpa [ixs] using (HAS.out i hi).2))) (by decide)))
      obtain ⟨fs, hnd, hfn, hfs, _, hown8⟩ := hT rfl
      obtain ⟨gl, hgl⟩ : ∃ gl, gl = os.length + TA.length + (fs.flatMap A).length := ⟨_, rfl⟩
      rw [← hgl] at hown8
      obtain ⟨ga, gc, rfl⟩ := own_slice hown8
      have hw8 := hf8.size
      have hse := same_sorted (A := A) (TA := TA) hnd hfn hfs HRE.out
      have hfl : (fs.flatMap A).length ≤ n * 256 := flat_le hnd hfn (fun i hi => (HAS.out i hi).1)
      have hfl2 := Nat.mul_le_mul_right 256 hn
      have hbo8 := hf8.below hCS hCM (Nat.le_trans hCS (Nat.le_of_lt hSD))
      have hrow8 := (HEXW.out.below (HB7.out.mono (by omega))).fr hf8 HNE.out
      rw [hse] at hrow8
      have hro8 := (HROW.out.below (HB7.out.mono (by omega))).below (hbo8.mono hs1)
      have HCK := hide (check_walk D D os.length (TA ++ fs.flatMap A).length (.slice ga gl gc) (.slice oa os.length oc) (.slice ea lx ec) os (TA ++ fs.flatMap A) w8 (by omega) hos (by rw [List.length_append]; omega) rfl rfl
        (by rw [List.length_append, ← Nat.add_assoc, ← hgl, ← List.append_assoc]; exact hown8) (hro8.mono (by omega)) hrow8)
      have HI8 := hide hi8
      have HF8 := hide hf8
      clear hgl hse hfl hfl2 hbo8 hrow8 hro8 hi8 hf8 hT hFa hown8 hnd hfn hfs HAW d0 d1 d2
      go_wp2_with fail
      refine HCK.out.mono ?_
      rintro e w9 ⟨rfl, hb9⟩
      have HB9 := hide hb9
      clear hb9 HCK
      go_wp2_with fail
      go_roundw
      case rel => exact ⟨kk + 1, r8, fv8, by omega, by go_num, HI8.out.below HB9.out, ((HFW.out.trans (Fr.ofBelow (HB7.out.mono (by omega)))).trans HF8.out).trans (Fr.ofBelow (HB9.out.mono (by omega)))⟩
      case measure => simp [intOf]; omega
    · obtain rfl : kk = 2 := by omega
      have HFW := hide hF
      clear hI hF
      go_wp2_with fail
      go_ret
      exact ⟨rfl, HB05.out.trans ((HFW.out.below hCS hCM (Nat.le_trans hCS (Nat.le_of_lt hSD))).mono hs1)⟩
end Go.Proofs.Ybulkbte
