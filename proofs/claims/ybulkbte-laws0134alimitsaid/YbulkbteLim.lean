/- LawS0134ALimit: the walk. -/
import Derived.Test.YbulkbteLawA
namespace Go.Proofs.Ybulkbte
open Go.RowKit Go.WideShapes

theorem total_is {n ta ts : Nat} {A Sb : Nat → List Int} : total n ta ts (fun i => (A i).length) (fun i => ((fun i => ixs n (Sb i)) i).length) = ta + ts + n + sumN n (fun i => 2 * ((A i).length + (Sb i).length)) := by
  unfold total
  simp [ixs]

theorem sum_part {n i : Nat} {A Sb : Nat → List Int} (hi : i ≤ n) (hn : n ≤ 256) (h : ∀ i, i < n → (A i).length ≤ 256 ∧ (Sb i).length ≤ 256) : sumN i (fun i => 2 * ((A i).length + (Sb i).length)) ≤ 262144 := by
  have h1 : sumN i (fun i => 2 * ((A i).length + (Sb i).length)) ≤ sumN i (fun _ => 1024) := sumN_le (fun j hj => by have := h j (by omega); omega)
  rw [sumN_const] at h1
  have h2 := Nat.mul_le_mul_right 1024 (Nat.le_trans hi hn)
  omega

set_option maxHeartbeats 8000000 in
set_option maxRecDepth 100000 in
theorem lim_walk (n : Nat) (A Sb : Nat → List Int) (TA Tb os : List Int) (sv tav tsv ov : Value) (limit : Int) (w : World) (hl0 : -9223372036854775808 ≤ limit) (hl1 : limit ≤ 9223372036854775807)
    (hin : InSets w.heap.size w sv n A Sb) (hra : Row w.heap.size w tav (TA.map (Value.int .u32))) (hrs : Row w.heap.size w tsv (Tb.map (Value.int .u8))) (hro : Row w.heap.size w ov (os.map (Value.int .u32)))
    (hb8 : ∀ i, i < n → ∀ b ∈ Sb i, 0 ≤ b ∧ b ≤ 255) (ht8 : ∀ b ∈ Tb, 0 ≤ b ∧ b ≤ 255) :
    Calls Yba.prog 4 #[sv, tav, tsv, ov, .int .i64 limit] w fun e w' => e = .returned (.bool true) ∧ Below w.heap.size w w' := by
  obtain ⟨so, sc, rfl, -⟩ := id hin
  obtain ⟨ta, tc, rfl, -⟩ := id hra
  obtain ⟨ts, tsc, rfl, -⟩ := id hrs
  obtain ⟨oa, oc, rfl, -⟩ := id hro
  simp only [List.length_map] at *
  have HGU := hide (guard_walk w.heap.size n TA.length Tb.length os.length A Sb (.slice so n sc) ta ts oa tc tsc oc w hin)
  have HIN := hide hin
  have HRA := hide hra
  have HRS := hide hrs
  have HRO := hide hro
  have HB8 := hide hb8
  have HT8 := hide ht8
  clear hin hra hrs hro hb8 ht8
  go_enter Yba.func4, Yba.ntmps4
  go_wp2_with fail
  refine HGU.out.mono ?_
  rintro e w0 ⟨b, rfl, hw0, hb⟩
  have hw2 := hw0.symm
  clear hw0
  subst hw2
  cases b
  · clear hb HGU
    go_wp2_with fail
    go_ret
    exact ⟨rfl, Below.refl _ _⟩
  obtain ⟨hn, hTA, hTb, hos, hAS⟩ := hb rfl
  clear hb HGU
  have HAS := hide hAS
  clear hAS
  have HBU := hide (build_walk w.heap.size n A Sb TA Tb (.slice so n sc) (.slice ta TA.length tc) (.slice ts Tb.length tsc) w (Nat.le_refl _) hn HIN.out HRA.out HRS.out (fun i hi => (HAS.out i hi).1) (fun i hi => (HAS.out i hi).2) HB8.out hTA hTb HT8.out)
  go_wp2_with fail
  refine HBU.out.mono ?_
  rintro e w1 ⟨G, P, tav2, tsv2, rfl, hb1, hst1, hra1, hrs1⟩
  obtain ⟨ta2, tc2, rfl, -⟩ := id hra1
  obtain ⟨ts2, tsc2, rfl, -⟩ := id hrs1
  simp only [List.length_map] at *
  have HB1 := hide hb1
  have HST1 := hide hst1
  have HRA1 := hide hra1
  have HRS1 := hide hrs1
  have hs1 := hb1.size
  clear hb1 hst1 hra1 hrs1 HBU
  go_wp2_with fail
  obtain ⟨W2, hW2⟩ : ∃ W2, W2 = ((w1.alloc (.cells #[.slice ta2 TA.length tc2, .slice ts2 (tops n Tb).length tsc2, .bool false] 29)).alloc (.cells #[.slice (some ⟨G, 0, none⟩) n n, .map none, .slice none 0 0] 38)) := ⟨_, rfl⟩
  rw [← hW2]
  have HB2 : Hid (Below w1.heap.size w1 W2) := hide (hW2 ▸ (((Below.refl w1.heap.size w1).alloc (Nat.le_refl _) _).alloc (by simp) _))
  have hsz2 : W2.heap.size = w1.heap.size + 2 := by rw [hW2]; simp
  have HTP : Hid (Blk W2 w1.heap.size 29 [.slice ta2 TA.length tc2, .slice ts2 (tops n Tb).length tsc2, .bool false]) := hide (by
    rw [hW2]; exact (Blk.new w1 29 _).alloc _)
  have hX : W2.cell? ⟨w1.heap.size + 1, 0, none⟩ = some (.slice (some ⟨G, 0, none⟩) n n) := by
    have h1 := Blk.new (w1.alloc (.cells #[.slice ta2 TA.length tc2, .slice ts2 (tops n Tb).length tsc2, .bool false] 29)) 38 [.slice (some ⟨G, 0, none⟩) n n, .map none, .slice none 0 0]
    rw [← hW2] at h1
    have h2 := h1.cell (i := 0) (by simp)
    simpa using h2
  have HNEW := hide (new_walk (w1.heap.size + 1) n n (some ⟨G, 0, none⟩) W2 hn hX)
  have HSZ2 := hide hsz2
  clear hsz2 hX hW2
  refine HNEW.out.mono ?_
  rintro e wo ⟨SS, rfl, hSS, hb3, hbS, hbM⟩
  obtain ⟨M, hM⟩ : ∃ M, M = W2.heap.size := ⟨_, rfl⟩
  obtain ⟨D, hD⟩ : ∃ D, D = wo.heap.size := ⟨_, rfl⟩
  rw [← hM] at hSS hbM hbS
  have hmc : w1.heap.size + 2 = M := by rw [hM, HSZ2.out]
  have hlt3 := hbS.lt
  have hSD : SS < D := by omega
  have hMD : M < D := by omega
  have hSM : SS ≠ M := by omega
  have hCS : w1.heap.size ≤ SS := by omega
  have hCM : w1.heap.size ≤ M := by omega
  have hDw : D ≤ wo.heap.size := Nat.le_of_eq hD
  have HIW : Hid (Idle wo D SS M n (.pointer (some ⟨w1.heap.size + 1, 0, none⟩)) 0 (.slice none 0 0)) := hide
    ⟨List.replicate n 0, 0, [], by simp, by omega, by omega, fun i hi => by simp [hi], hbS, hbM, World.ownsRow_nil _ _ _ _⟩
  have hb3M : Below M W2 wo := hM ▸ hb3
  have HB1o : Hid (Below w1.heap.size w1 wo) := hide (HB2.out.trans (hb3M.mono (by omega)))
  have HB0o : Hid (Below w.heap.size w wo) := hide (HB1.out.trans (HB1o.out.mono hs1))
  have HST := hide (HST1.out.below HB1o.out)
  have HRAW := hide (HRA1.out.below HB1o.out)
  have HRSW := hide (HRS1.out.below HB1o.out)
  have HTPW := hide (HTP.out.below hb3M (by omega))
  have HROW := hide (HRO.out.below HB0o.out)
  clear hbS hbM hb3 hb3M hM HNEW hD HB2 HTP HSZ2 HST1 HRA1 HRS1 hlt3
  obtain ⟨i0, hi0, hz0, hz1, hz2⟩ := info_parts info25
  go_wp2_with (at_make; refine wpList_make_full _ rfl (.tmp 37) (.tmp 37) 23 rfl D 25 i0 (.int .u32 0) 1 Yba.underlying23 hi0 hz0 hz1 .i64 .i64 _ _ os.length rfl rfl (by omega) (by omega) (by rw [hz2]; omega) (by unfold maxLen; omega) (by omega) ?_; intro w6 hown hgrow; have hb6 := (Below.refl wo.heap.size wo).grown hgrow (Nat.le_refl _) (fun k hk => by cases hk); obtain ⟨w7, hcp, hbk7, hb67⟩ := cp_any (s0 := wo.heap.size) (k := os.length) (os := os) rfl (by have := hown.1; simpa using this) (Blk.ofOwns hown) (HROW.out.below (hb6.mono HB0o.out.size)); have hb7 := hb6.trans hb67; have HB7 := hide hb7; have HK7 := hide hbk7; have HTP7 := hide (HTPW.out.below hb7 (by omega)); have d0 : w7.cell? ⟨w1.heap.size, 0, none⟩ = some (.slice ta2 TA.length tc2) := HTP7.out.cell (i := 0) (by simp); have d1 : w7.cell? ⟨w1.heap.size, 1, none⟩ = some (.slice ts2 (tops n Tb).length tsc2) := HTP7.out.cell (i := 1) (by simp); have d2 : w7.cell? ⟨w1.heap.size, 2, none⟩ = some (.bool false) := HTP7.out.cell (i := 2) (by simp); clear hown hgrow hb6 hbk7 hb67 hb7)
  have hw7 := HB7.out.size
  have HAW := hide (ases_walk w1.heap.size D SS M n os.length (.pointer (some ⟨w1.heap.size + 1, 0, none⟩)) 0 P (.slice none 0 0) TA os (tops n Tb) A (fun i => ixs n (Sb i)) (.slice ta2 TA.length tc2) (.slice ts2 (tops n Tb).length tsc2) (.slice (some ⟨wo.heap.size, 0, none⟩) os.length os.length) limit w7
    (HIW.out.below HB7.out) hSM hSD hMD hCS hCM (by omega) hn (HST.out.below (HB7.out.mono (by omega))) (fun i hi => (HAS.out i hi).1) (fun i hi => by simpa [ixs] using (HAS.out i hi).2) (fun i hi => ixs_lt (by omega)) hTA (Nat.le_trans (tops_len n Tb) hTb) tops_lt
    (HRAW.out.below (HB7.out.mono (by omega))) (HRSW.out.below (HB7.out.mono (by omega))) hos (blk_owns HK7.out (by simp) (by omega) (by unfold maxLen; omega)))
  refine HAW.out.mono ?_
  rintro e w8 ⟨gv, ok, rfl, hf8, -, hT, hFa⟩
  have hw8 := hf8.size
  have hbo8 := hf8.below hCS hCM (Nat.le_trans hCS (Nat.le_of_lt hSD))
  have HB08 : Hid (Below w.heap.size w w8) := hide (HB0o.out.trans ((HB7.out.mono HB0o.out.size).trans (hbo8.mono hs1)))
  have HTP8 := hide (HTP7.out.fr hf8 (by omega) (by omega) (by omega))
  have HT := hide hT
  have HFA := hide hFa
  have hTS : (tops n Tb).length ≤ 256 := Nat.le_trans (tops_len n Tb) hTb
  have q0 : w8.cell? ⟨w1.heap.size, 0, none⟩ = some (.slice ta2 TA.length tc2) := HTP8.out.cell (i := 0) (by simp)
  have q1 : w8.cell? ⟨w1.heap.size, 1, none⟩ = some (.slice ts2 (tops n Tb).length tsc2) := HTP8.out.cell (i := 1) (by simp)
  have hw18 : w1.heap.size < w8.heap.size := HTP8.out.lt
  clear hf8 hT hFa hbo8 HAW d0 d1 d2 hcp HK7 HB7 HTP7 HTPW HIW HST HRAW HRSW HROW HB1o HB0o
  go_wp2_with fail
  go_loopw [17, 18] (fun tv iv wr => ∃ (i t : Nat), i ≤ n ∧ iv = .int .i64 i ∧ tv = .int .i64 t ∧ Hid (t = TA.length + (tops n Tb).length + n + sumN i (fun i => 2 * ((A i).length + (Sb i).length))) ∧ ∃ q, wr = w8.drewN q) (fun _ iv _ => n - (intOf iv).toNat)
  case atStart => exact ⟨0, TA.length + (tops n Tb).length + n, Nat.zero_le _, rfl, by simp, hide (by simp [sumN_zero]), 0, rfl⟩
  case round =>
    obtain ⟨i, t, hi, rfl, rfl, ht, qq, hwr⟩ := hrel
    subst hwr
    have hsp := sum_part hi hn HAS.out
    have htb : t ≤ 263000 := by have := ht.out; omega
    clear hsp
    by_cases hlt : i < n
    · obtain ⟨b, off, hso, hbC, aa, ac, ba, bc, hc0, hc1, _, _⟩ := (HIN.out.below HB08.out).at hlt
      cases hso
      have hAl := (HAS.out i hlt).1
      have hSl := (HAS.out i hlt).2
      have hiz : (i : Int) < (n : Int) := by omega
      have hi0z : (0 : Int) ≤ (i : Int) := by omega
      go_wp2_with fail
      go_quiet (fail)
      go_wp2_with fail
      go_roundw
      case rel =>
        refine ⟨i + 1, t + 2 * ((A i).length + (Sb i).length), by omega, by go_num, by go_num, hide ?_, _, rfl⟩
        rw [ht.out, sumN_succ]
        omega
      case measure => simp [intOf]; omega
    · obtain rfl : n = i := by omega
      have hii : ¬ ((n : Int) < (n : Int)) := by omega
      cases ok
      · obtain ⟨hlim, hrow⟩ := HFA.out rfl
        rw [total_is, ← ht.out] at hlim
        obtain ⟨ga, gc, rfl, -⟩ := id hrow
        have HEQ := hide (equal_rows _ _ _ _ os (w8.drewN qq) (hrow.drewN qq) ((HRO.out.below HB08.out).drewN qq) (by omega))
        simp only [List.length_map] at HEQ ⊢
        have hge : ¬ ((t : Int) ≤ limit) := by omega
        have hgez : decide ((t : Int) ≤ limit) = false := decide_eq_false hge
        clear HT HFA hrow ht
        by_cases hgt : limit < (TA.length : Int) + ((tops n Tb).length : Int)
        · go_wp2_with fail
          refine HEQ.out.mono ?_
          rintro e w9 ⟨rfl, q9, rfl⟩
          go_wp2_with fail
          go_ret
          exact ⟨rfl, below_drewN HB08.out _⟩
        · have hgtz : decide (limit < (TA.length : Int) + ((tops n Tb).length : Int)) = false := decide_eq_false hgt
          go_wp2_with fail
          refine HEQ.out.mono ?_
          rintro e w9 ⟨rfl, q9, rfl⟩
          go_wp2_with fail
          go_ret
          exact ⟨rfl, below_drewN HB08.out _⟩
      · obtain ⟨fs, hnd, hfn, hfs, hle, hown8⟩ := HT.out rfl
        obtain ⟨gl, hgl⟩ : ∃ gl, gl = os.length + TA.length + (fs.flatMap A).length := ⟨_, rfl⟩
        rw [← hgl] at hown8
        obtain ⟨ga, gc, rfl⟩ := own_slice hown8
        have hgt : ¬ (limit < (TA.length : Int) + ((tops n Tb).length : Int)) := by omega
        have hgtz : decide (limit < (TA.length : Int) + ((tops n Tb).length : Int)) = false := decide_eq_false hgt
        have HBQ : Hid (Below w.heap.size w (w8.drewN qq)) := hide (below_drewN HB08.out qq)
        have HMO := hide (model_walk w.heap.size n A Sb TA Tb (.slice so n sc) (.slice ta TA.length tc) (.slice ts Tb.length tsc) (w8.drewN qq) HBQ.out.size hn (HIN.out.below HBQ.out) (HRA.out.below HBQ.out) (HRS.out.below HBQ.out) (fun i hi => (HAS.out i hi).1) (fun i hi => (HAS.out i hi).2) HB8.out hTA hTb HT8.out)
        have HOWN := hide hown8
        have HGL := hide hgl
        have HFS := hide (And.intro hnd (And.intro hfn hfs))
        clear HT HFA ht hown8 hgl hnd hfn hfs hle
        by_cases hge : (t : Int) ≤ limit
        · go_wp2_with fail
          refine HMO.out.mono ?_
          rintro e w9 ⟨ev, rs, rfl, hb9, hrs9, hrow9, -⟩
          have hse := same_sorted (A := A) (TA := TA) HFS.out.1 HFS.out.2.1 HFS.out.2.2 hrs9
          rw [hse] at hrow9
          have hfl : (fs.flatMap A).length ≤ n * 256 := flat_le HFS.out.1 HFS.out.2.1 (fun i hi => (HAS.out i hi).1)
          have hfl2 := Nat.mul_le_mul_right 256 hn
          have hB09 : Below w.heap.size w w9 := HBQ.out.trans (hb9.mono HBQ.out.size)
          have HCK := hide (check_walk w9.heap.size D os.length (TA ++ fs.flatMap A).length (.slice ga gl gc) (.slice oa os.length oc) ev os (TA ++ fs.flatMap A) w9 (Nat.le_refl _) hos (by rw [List.length_append]; omega) rfl rfl
            (by rw [List.length_append, ← Nat.add_assoc, ← HGL.out, ← List.append_assoc]; exact own_below (w := w8.drewN qq) HOWN.out hb9 (Nat.le_refl _)) ((HRO.out.below hB09).mono hB09.size) hrow9)
          have HB9 := hide hB09
          clear hse hfl hfl2 hB09 hb9 hrs9 hrow9 HMO
          go_wp2_with fail
          refine HCK.out.mono ?_
          rintro e w10 ⟨rfl, hb10⟩
          go_wp2_with fail
          go_ret
          exact ⟨rfl, HB9.out.trans (hb10.mono HB9.out.size)⟩
        · have hgez : decide ((t : Int) ≤ limit) = false := decide_eq_false hge
          go_wp2_with fail
          refine HMO.out.mono ?_
          rintro e w9 ⟨ev, rs, rfl, hb9, hrs9, hrow9, -⟩
          have hse := same_sorted (A := A) (TA := TA) HFS.out.1 HFS.out.2.1 HFS.out.2.2 hrs9
          rw [hse] at hrow9
          have hfl : (fs.flatMap A).length ≤ n * 256 := flat_le HFS.out.1 HFS.out.2.1 (fun i hi => (HAS.out i hi).1)
          have hfl2 := Nat.mul_le_mul_right 256 hn
          have hB09 : Below w.heap.size w w9 := HBQ.out.trans (hb9.mono HBQ.out.size)
          have HCK := hide (check_walk w9.heap.size D os.length (TA ++ fs.flatMap A).length (.slice ga gl gc) (.slice oa os.length oc) ev os (TA ++ fs.flatMap A) w9 (Nat.le_refl _) hos (by rw [List.length_append]; omega) rfl rfl
            (by rw [List.length_append, ← Nat.add_assoc, ← HGL.out, ← List.append_assoc]; exact own_below (w := w8.drewN qq) HOWN.out hb9 (Nat.le_refl _)) ((HRO.out.below hB09).mono hB09.size) hrow9)
          have HB9 := hide hB09
          clear hse hfl hfl2 hB09 hb9 hrs9 hrow9 HMO
          go_wp2_with fail
          refine HCK.out.mono ?_
          rintro e w10 ⟨rfl, hb10⟩
          go_wp2_with fail
          go_ret
          exact ⟨rfl, HB9.out.trans (hb10.mono HB9.out.size)⟩
end Go.Proofs.Ybulkbte
