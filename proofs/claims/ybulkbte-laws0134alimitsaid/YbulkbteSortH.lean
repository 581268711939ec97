/- slices.Sort at uint32, eighth part: pdqsort. -/
import Derived.Test.YbulkbteSortF
import Derived.Test.YbulkbteSortG
import Derived.Sort.Walk13
import Derived.Sort.AssemblyPlain
namespace Go.Proofs.Ybulkbte
open Go.RowKit Go.WideShapes Go.Sort

set_option maxHeartbeats 20000000 in
set_option maxRecDepth 1000000 in
theorem pdq_u32 : ∀ (N blk off cap n a b limit : Nat) (d : Array Int) (w : World), b - a < N → d.size = n → Holds eU w blk off d → blk < w.heap.size → a ≤ b → b ≤ n → n < 4611686018427387904 → limit < 4611686018427387904 → Sort.Below ltInt a b d →
    Calls Yba.prog 20 #[.slice (some ⟨blk, off, none⟩) n cap, .int .i64 a, .int .i64 b, .int .i64 limit] w fun e w' => e = .returned (.tuple #[]) ∧ Now w blk off (pdq ltInt d a b limit true true) w' := by
  intro N
  induction N with
  | zero => intro _ _ _ _ _ _ _ _ _ h; exact absurd h (Nat.not_lt_zero _)
  | succ N ih =>
    intro blk off cap n a b limit d w hN hn hH hblk hab hb hsz hlimit hBel0
    have HN0 := hide (Now.refl hH hblk)
    have IH := hide ih
    clear hH ih
    go_enter Yba.func20, Yba.ntmps20
    go_wp2
    go_loopg [1, 2, 3, 8, 9] (b - a) (fun k s1 s2 s3 s8 s9 wr => ∃ (p q lim : Nat) (wb wp : Bool) (dk : Array Int), s1 = .int .i64 p ∧ s2 = .int .i64 q ∧ s3 = .int .i64 lim ∧ s8 = .bool wb ∧ s9 = .bool wp ∧
      p ≤ q ∧ q ≤ n ∧ q - p ≤ k ∧ k ≤ b - a ∧ lim ≤ limit ∧ dk.size = n ∧ Sort.Below ltInt p q dk ∧ Now w blk off dk wr ∧ pdq ltInt dk p q lim wb wp = pdq ltInt d a b limit true true)
    case atStart => exact ⟨a, b, limit, true, true, d, rfl, rfl, rfl, rfl, rfl, hab, hb, Nat.le_refl _, Nat.le_refl _, Nat.le_refl _, hn, hBel0, HN0.out, rfl⟩
    case round =>
      obtain ⟨p, q, lim, wb, wp, dk, rfl, rfl, rfl, rfl, rfl, hpq, hq, hk, hkN, hlim, hds, hBel, hN1, heq⟩ := hrel
      have HO := hide heq
      have HN1 := hide hN1
      clear heq hN1 HN0
      by_cases h12 : q - p ≤ 12
      · have h12z : (q : Int) - (p : Int) ≤ 12 := by omega
        have hc := hide (ins_u32 blk off cap n p q dk wr hds HN1.out.2.1 HN1.out.2.2 hpq hq hsz)
        go_wp2_with fail
        refine hc.out.mono ?_
        rintro e w1 ⟨rfl, hw1⟩
        have HW := hide (HN1.out.trans hw1)
        clear hw1 hc
        go_wp2
        (try simp only [Exit.inBlock, Exit.then])
        refine bodyPost_ret (results_none rfl _ _ _) rfl ?_
        refine ⟨rfl, ?_⟩
        rw [← HO.out, pdq_small h12]
        exact HW.out
      · have h12z : ¬ ((q : Int) - (p : Int) ≤ 12) := by omega
        by_cases hl0 : lim = 0
        · subst hl0
          have hc := hide (heap_u32 blk off cap n p q dk wr hds HN1.out.2.1 HN1.out.2.2 (by omega) hq hsz)
          go_wp2_with fail
          refine hc.out.mono ?_
          rintro e w1 ⟨rfl, hw1⟩
          have HW := hide (HN1.out.trans hw1)
          clear hw1 hc
          go_wp2
          (try simp only [Exit.inBlock, Exit.then])
          refine bodyPost_ret (results_none rfl _ _ _) rfl ?_
          refine ⟨rfl, ?_⟩
          rw [← HO.out, pdq_heap h12 rfl]
          exact HW.out
        · have hl0z : ¬ ((lim : Int) = 0) := by omega
          obtain ⟨s1, B1, hc1, s2, B2, hpv, s3, B3⟩ := rd_facts (limit := lim) (wb := wb) (wp := wp) swo_ltInt partialInsertionSort_holds reverseRange_holds (show p < q by omega) (show q ≤ dk.size by omega) hBel
          go_upto_if 35 with fail
          go_cut [3] from 19 (fun s3 wc => s3 = .int .i64 (rd ltInt dk p q lim wb wp).lim ∧ Now w blk off (rd ltInt dk p q lim wb wp).d1 wc)
          case first =>
            cases wb
            · have hc := hide (brk_u32 n blk off cap p q dk wr hds HN1.out.2.1 HN1.out.2.2 hpq hq hsz)
              go_wp2_with fail
              refine hc.out.mono ?_
              rintro e w1 ⟨rfl, hw1⟩
              have HW := hide (HN1.out.trans hw1)
              clear hw1 hc
              go_wp2_with fail
              go_meet
              case rel =>
                refine ⟨?_, HW.out⟩
                show Value.int .i64 ((lim : Int) - 1) = Value.int .i64 ((lim - 1 : Nat) : Int)
                congr 1
                omega
            · go_wp2_with fail
              go_meet
              case rel => exact ⟨rfl, HN1.out⟩
          case rest =>
            obtain ⟨rfl, hA1⟩ := hcut
            have HA1 := hide hA1
            have hcp : Hid (Calls Yba.prog 25 #[.slice (some ⟨blk, off, none⟩) n cap, .int .i64 p, .int .i64 q] wc fun e w' => e = .returned (.tuple #[.int .i64 (rd ltInt dk p q lim wb wp).c.1, .int .i64 (hintCode (rd ltInt dk p q lim wb wp).c.2)]) ∧ RowKit.Below wc.heap.size wc w') := hide (pivot_u32 n blk off cap p q (rd ltInt dk p q lim wb wp).d1 wc (s1.trans hds) HA1.out.2.1 HA1.out.2.2 (by omega) hq hsz)
            clear hA1 HN1
            go_upto_if 50 with (go_at_call 25; refine hcp.out.mono ?_; rintro e w2 ⟨rfl, hw2⟩)
            have HA2 := hide (HA1.out.later hw2 HA1.out.2.2)
            clear hw2 hcp HA1
            go_cut [11, 12] from 19 (fun s11 s12 wc => s11 = .int .i64 (rd ltInt dk p q lim wb wp).pivot ∧ s12 = .int .i64 (hintCode (rd ltInt dk p q lim wb wp).hint) ∧ Now w blk off (rd ltInt dk p q lim wb wp).d2 wc)
            case first =>
              by_cases hh : (rd ltInt dk p q lim wb wp).c.2 = .decreasing
              · have hcode : hintCode (rd ltInt dk p q lim wb wp).c.2 = 2 := by rw [hh]; rfl
                obtain ⟨e2, epv, eht⟩ := rd_dec hh
                have hcr := hide (rev_u32 blk off cap n p q (rd ltInt dk p q lim wb wp).d1 w2 (s1.trans hds) HA2.out.2.1 HA2.out.2.2 (by omega) hq hsz)
                go_wp2_with (go_at_call 26; refine hcr.out.mono ?_; rintro e w3 ⟨rfl, hw3⟩)
                go_meet
                case rel =>
                  refine ⟨?_, by rw [eht]; rfl, by rw [e2]; exact HA2.out.trans hw3⟩
                  rw [epv]
                  congr 1
                  omega
              · have hcode : ¬ (hintCode (rd ltInt dk p q lim wb wp).c.2 = 2) := fun h => hh (hintCode_two h)
                obtain ⟨e2, epv, eht⟩ := rd_not hh
                go_wp2_with fail
                go_meet
                case rel => exact ⟨by rw [epv], by rw [eht], by rw [e2]; exact HA2.out⟩
            case rest =>
              obtain ⟨rfl, rfl, hA3⟩ := hcut
              have HA3 := hide hA3
              clear hA3 HA2
              go_upto_region 15 with fail
              go_cut [12, 68] from 19 (fun s12 s68 wx => s12 = .int .i64 (hintCode (rd ltInt dk p q lim wb wp).hint) ∧ s68 = .bool (wb && wp && decide ((rd ltInt dk p q lim wb wp).hint = .increasing)) ∧ wx = wc)
              case first =>
                cases wb <;> cases wp <;> cases hh3 : (rd ltInt dk p q lim _ _).hint <;>
                  (have hcode3 := congrArg hintCode hh3
                   simp only [hintCode] at hcode3
                   go_wp2_with fail
                   go_meet
                   exact ⟨by simp [hh3, hintCode], by simp [hh3, hintCode], rfl⟩)
              case rest =>
                obtain ⟨rfl, rfl, hwx⟩ := hcut
                have hw2 := hwx.symm
                subst hw2
                go_upto_if 68 with fail
                go_cut [] from 19 (fun wx => (rd ltInt dk p q lim wb wp).pi.2 = false ∧ Now w blk off (rd ltInt dk p q lim wb wp).pi.1 wx)
                case first =>
                  cases h68 : (wb && wp && decide ((rd ltInt dk p q lim wb wp).hint = .increasing))
                  · have epi := rd_pi_no h68
                    go_wp2_with fail
                    go_meet
                    case rel => exact ⟨by rw [epi], by rw [epi]; exact HA3.out⟩
                  · have epi := rd_pi_yes h68
                    have hcn : Hid (Calls Yba.prog 27 #[.slice (some ⟨blk, off, none⟩) n cap, .int .i64 p, .int .i64 q] wc fun e w' => e = .returned (.bool (rd ltInt dk p q lim wb wp).pi.2) ∧ Now wc blk off (rd ltInt dk p q lim wb wp).pi.1 w') := hide (by rw [epi]; exact pins_u32 blk off cap n p q (rd ltInt dk p q lim wb wp).d2 wc (s2.trans hds) HA3.out.2.1 HA3.out.2.2 (by omega) hq hsz)
                    clear epi
                    cases hp2 : (rd ltInt dk p q lim wb wp).pi.2
                    · rw [hp2] at hcn
                      go_wp2_with (go_at_call 27; refine hcn.out.mono ?_; rintro e w4 ⟨rfl, hw4⟩)
                      go_meet
                      case rel => exact ⟨hp2, HA3.out.trans hw4⟩
                    · rw [hp2] at hcn
                      go_wp2_with (go_at_call 27; refine hcn.out.mono ?_; rintro e w4 ⟨rfl, hw4⟩)
                      (try simp only [Exit.inBlock, Exit.then])
                      refine bodyPost_ret (results_none rfl _ _ _) rfl ?_
                      refine ⟨rfl, ?_⟩
                      rw [← HO.out, pdq_done h12 hl0 hp2]
                      exact HA3.out.trans hw4
                case rest =>
                  obtain ⟨hp2, hA5⟩ := hcut
                  have HP2 := hide hp2
                  have HA5 := hide hA5
                  obtain ⟨G, hG, hcw, hfw⟩ := hA5.cells (s3.trans hds)
                  have HG := hide hG
                  clear hp2 hA5 HA3 hG
                  go_upto_region 17 with fail
                  go_cut [87] from 19 (fun s87 wx => s87 = .bool (decide (p > 0) && !ltInt (rd ltInt dk p q lim wb wp).pi.1[p - 1]! (rd ltInt dk p q lim wb wp).pi.1[(rd ltInt dk p q lim wb wp).pivot]!) ∧ Now w blk off (rd ltInt dk p q lim wb wp).pi.1 wx)
                  case first =>
                    rcases Nat.eq_zero_or_pos p with ha0 | ha0
                    · have ha0z : decide ((p : Int) > 0) = false := decide_eq_false (by omega)
                      have ha0y : decide (0 < p) = false := decide_eq_false (by omega)
                      have ha0x : ¬ (0 < p) := by omega
                      have Ha0 := hide ha0
                      clear ha0
                      go_big_quiet (first | (go_at_call 28; refine Calls.quiet_of_same (less_u32 _ _ _)))
                      go_wp2_with fail
                      go_meet
                      case rel => exact ⟨by simp [Ha0.out], HA5.out.drewN nq⟩
                    · have ha0z : (p : Int) > 0 := by omega
                      go_big_quiet (first | (go_at_call 28; refine Calls.quiet_of_same (less_u32 _ _ _)))
                      go_wp2_with fail
                      go_meet
                      case rel => exact ⟨by simp [ha0, HG.out], HA5.out.drewN nq⟩
                  case rest =>
                    obtain ⟨rfl, hA6⟩ := hcut
                    have HA6 := hide hA6
                    clear hcw hfw hA6 HA5
                    cases h87 : (decide (p > 0) && !ltInt (rd ltInt dk p q lim wb wp).pi.1[p - 1]! (rd ltInt dk p q lim wb wp).pi.1[(rd ltInt dk p q lim wb wp).pivot]!)
                    · have H87 := hide h87
                      clear h87
                      obtain ⟨mid, ap, d4, hx⟩ : ∃ mid ap d4, partition ltInt (rd ltInt dk p q lim wb wp).pi.1 p q (rd ltInt dk p q lim wb wp).pivot = (mid, ap, d4) := ⟨(partition ltInt (rd ltInt dk p q lim wb wp).pi.1 p q (rd ltInt dk p q lim wb wp).pivot).1, (partition ltInt (rd ltInt dk p q lim wb wp).pi.1 p q (rd ltInt dk p q lim wb wp).pivot).2.1, (partition ltInt (rd ltInt dk p q lim wb wp).pi.1 p q (rd ltInt dk p q lim wb wp).pivot).2.2, rfl⟩
                      obtain ⟨r1, r2, r3, r4, r5, r6, r7⟩ := round_part swo_ltInt (partition_holds ltInt) hpv.1 hpv.2 (show q ≤ (rd ltInt dk p q lim wb wp).pi.1.size by omega) B3 hx
                      have hc0 := part_u32 blk off cap n p q (rd ltInt dk p q lim wb wp).pivot (rd ltInt dk p q lim wb wp).pi.1 wc (s3.trans hds) HA6.out.2.1 HA6.out.2.2 hpv.1 hpv.2 hq hsz
                      rw [hx] at hc0
                      have hc := hide hc0
                      have X := hide hx
                      clear hx hc0
                      go_upto_if 113 with (go_at_call 30; refine hc.out.mono ?_; rintro e w7 ⟨rfl, hw7⟩)
                      have HA7 := hide (HA6.out.trans hw7)
                      have s4 : d4.size = n := r3.trans (s3.trans hds)
                      clear hw7 hc HA6
                      by_cases h4 : mid - p < q - mid
                      · have h4z : (mid : Int) - (p : Int) < (q : Int) - (mid : Int) := by omega
                        have hih := hide (IH.out blk off cap n p mid (rd ltInt dk p q lim wb wp).lim d4 w7 (by omega) s4 HA7.out.2.1 HA7.out.2.2 r1 (by omega) hsz (Nat.lt_of_le_of_lt (Nat.le_trans rd_lim_le hlim) hlimit) r4)
                        obtain ⟨pL, sL⟩ := pdq_sorts ltInt swo_ltInt d4 p mid (rd ltInt dk p q lim wb wp).lim true true (by omega) (by omega) r4
                        go_wp2_with (go_at_call 20; refine hih.out.mono ?_; rintro e w8 ⟨rfl, hw8⟩)
                        go_roundg (q - (mid + 1))
                        case measure => omega
                        case rel =>
                          have hx := X.out
                          refine ⟨mid + 1, q, (rd ltInt dk p q lim wb wp).lim, decide (mid - p ≥ (q - p) / 8), ap, pdq ltInt d4 p mid (rd ltInt dk p q lim wb wp).lim true true, by simp, rfl, rfl, ?_, rfl, by omega, by omega, Nat.le_refl _, by omega, Nat.le_trans rd_lim_le hlim, pL.1.trans s4, (r6 _ pL sL).1, HA7.out.trans hw8, ?_⟩
                          · exact congrArg Value.bool (eighth (by omega) (by omega))
                          · rw [← HO.out, pdq_left h12 hl0 HP2.out H87.out (by rw [hx]; exact ⟨r1, r2⟩) (by rw [hx]; exact h4), hx]
                      · have h4z : ¬ ((mid : Int) - (p : Int) < (q : Int) - (mid : Int)) := by omega
                        have hih := hide (IH.out blk off cap n (mid + 1) q (rd ltInt dk p q lim wb wp).lim d4 w7 (by omega) s4 HA7.out.2.1 HA7.out.2.2 (by omega) (by omega) hsz (Nat.lt_of_le_of_lt (Nat.le_trans rd_lim_le hlim) hlimit) r5)
                        obtain ⟨pL, sL⟩ := pdq_sorts ltInt swo_ltInt d4 (mid + 1) q (rd ltInt dk p q lim wb wp).lim true true (by omega) (by omega) r5
                        go_wp2_with (go_at_call 20; refine hih.out.mono ?_; rintro e w8 ⟨rfl, hw8⟩)
                        go_roundg (mid - p)
                        case measure => omega
                        case rel =>
                          have hx := X.out
                          refine ⟨p, mid, (rd ltInt dk p q lim wb wp).lim, decide (q - mid ≥ (q - p) / 8), ap, pdq ltInt d4 (mid + 1) q (rd ltInt dk p q lim wb wp).lim true true, rfl, rfl, rfl, ?_, rfl, by omega, by omega, Nat.le_refl _, by omega, Nat.le_trans rd_lim_le hlim, pL.1.trans s4, (r7 _ pL sL).1, HA7.out.trans hw8, ?_⟩
                          · exact congrArg Value.bool (eighth (by omega) (by omega))
                          · rw [← HO.out, pdq_right h12 hl0 HP2.out H87.out (by rw [hx]; exact ⟨r1, r2⟩) (by rw [hx]; exact h4), hx]
                    · have h87' := h87
                      simp only [Bool.and_eq_true, decide_eq_true_eq, Bool.not_eq_true'] at h87'
                      have H87 := hide h87
                      clear h87
                      obtain ⟨mid, d4, hx⟩ : ∃ mid d4, partitionEqual ltInt (rd ltInt dk p q lim wb wp).pi.1 p q (rd ltInt dk p q lim wb wp).pivot = (mid, d4) := ⟨(partitionEqual ltInt (rd ltInt dk p q lim wb wp).pi.1 p q (rd ltInt dk p q lim wb wp).pivot).1, (partitionEqual ltInt (rd ltInt dk p q lim wb wp).pi.1 p q (rd ltInt dk p q lim wb wp).pivot).2, rfl⟩
                      obtain ⟨r1, r2, r3, r4, _⟩ := round_eq swo_ltInt (partitionEqual_holds ltInt) h87'.1 hpv.1 hpv.2 (show q ≤ (rd ltInt dk p q lim wb wp).pi.1.size by omega) B3 h87'.2 hx
                      have hc0 := pareq_u32 blk off cap n p q (rd ltInt dk p q lim wb wp).pivot (rd ltInt dk p q lim wb wp).pi.1 wc (s3.trans hds) HA6.out.2.1 HA6.out.2.2 hpv.1 hpv.2 hq hsz
                      rw [hx] at hc0
                      have hc := hide hc0
                      have X := hide hx
                      have s4 : d4.size = n := r3.trans (s3.trans hds)
                      clear hx hc0 h87'
                      go_wp2_with (go_at_call 29; refine hc.out.mono ?_; rintro e w7 ⟨rfl, hw7⟩)
                      go_roundg (q - mid)
                      case measure => omega
                      case rel =>
                        have hx := X.out
                        exact ⟨mid, q, (rd ltInt dk p q lim wb wp).lim, wb, wp, d4, rfl, rfl, rfl, rfl, rfl, r2, hq, Nat.le_refl _, by omega, Nat.le_trans rd_lim_le hlim, s4, r4, HA6.out.trans hw7, by rw [← HO.out, pdq_eq h12 hl0 HP2.out H87.out (by rw [hx]; exact ⟨r1, r2⟩), hx]⟩
end Go.Proofs.Ybulkbte
