/- slices.Sort at uint32, fourth part: breakPatterns. -/
import Derived.Test.YbulkbteSortC
import Derived.Test.YbulkbteShelf
import Derived.Sort.Walk7
namespace Go.Proofs.Ybulkbte
open Go.RowKit Go.WideShapes Go.Sort

/-- The generator's cell. -/
def Gen (w : World) (rb X : Nat) : Prop := w.cell? ⟨rb, 0, none⟩ = some (.int .u64 X) ∧ w.frozen? ⟨rb, 0, none⟩ = false ∧ rb < w.heap.size

set_option maxHeartbeats 2000000 in
theorem next_u64 (rb X : Nat) (hX : X < 18446744073709551616) (w : World) (hg : Gen w rb X) :
    Calls Yba.prog 35 #[.pointer (some ⟨rb, 0, none⟩)] w fun e w' => e = .returned (.int .u64 (xorNextN X : Nat)) ∧ Gen w' rb (xorNextN X) ∧ RowKit.Below rb w w' := by
  obtain ⟨hc, hf, hrb⟩ := hg
  obtain ⟨A, hA⟩ : ∃ A : Nat, A = X ^^^ (X * 8192 % 18446744073709551616) := ⟨_, rfl⟩
  obtain ⟨B, hB⟩ : ∃ B : Nat, B = A ^^^ (A / 128) := ⟨_, rfl⟩
  obtain ⟨C, hC⟩ : ∃ C : Nat, C = B ^^^ (B * 131072 % 18446744073709551616) := ⟨_, rfl⟩
  have lA : A < 18446744073709551616 := by rw [hA]; exact Nat.xor_lt_two_pow (n := 64) (by omega) (by omega)
  have lB : B < 18446744073709551616 := by rw [hB]; exact Nat.xor_lt_two_pow (n := 64) (by omega) (by omega)
  have e1 : bits .xor .u64 (X : Int) (IntKind.u64.wrap ((X : Int) * 8192)) = (A : Int) := by
    rw [IntKind.wrap_u64, show ((X : Int) * 8192 % 18446744073709551616) = ((X * 8192 % 18446744073709551616 : Nat) : Int) by omega, bits_xor_u64_nat _ _ hX (by omega), hA]
  have e2 : bits .xor .u64 (A : Int) ((A : Int) / 128) = (B : Int) := by
    rw [show ((A : Int) / 128) = ((A / 128 : Nat) : Int) by omega, bits_xor_u64_nat _ _ lA (by omega), hB]
  have e3 : bits .xor .u64 (B : Int) (IntKind.u64.wrap ((B : Int) * 131072)) = (C : Int) := by
    rw [IntKind.wrap_u64, show ((B : Int) * 131072 % 18446744073709551616) = ((B * 131072 % 18446744073709551616 : Nat) : Int) by omega, bits_xor_u64_nat _ _ lB (by omega), hC]
  have HV : Hid (xorNextN X = C) := hide (by unfold xorNextN; simp only []; rw [← hA, ← hB, ← hC])
  have HRB := hide hrb
  clear hA hB hC hrb
  have hss : ∀ v v', (w.setCell ⟨rb, 0, none⟩ v).setCell ⟨rb, 0, none⟩ v' = w.setCell ⟨rb, 0, none⟩ v' := setCell_setCell w rb 0
  go_enter Yba.func35, Yba.ntmps35
  go_wp2
  go_region
  all_goals go_wp2
  all_goals go_region
  all_goals go_wp2
  all_goals go_region
  all_goals go_wp2
  go_ret
  rw [HV.out]
  refine ⟨rfl, ⟨?_, ?_, ?_⟩, ?_⟩
  · exact World.cell?_setCell_same _ _ _ hc
  · exact (World.frozen?_setCell _ _ _ _).trans hf
  · simpa using HRB.out
  · exact below_drewN (RowKit.Below.setCell (p := ⟨rb, 0, none⟩) (RowKit.Below.refl rb w) (Nat.le_refl _) _) 3

set_option maxHeartbeats 1000000 in
theorem pow2_u64 (n : Nat) (hn : n < 4611686018427387904) (w : World) :
    Calls Yba.prog 34 #[.int .i64 n] w fun e w' => e = .returned (.int .u64 ((1 <<< bitsLen n : Nat) : Int)) ∧ w' = w := by
  have hLen : ∀ w, Calls Yba.prog 21 #[.int .u64 (n : Int)] w fun e w' => e = .returned (.int .i64 (bitsLen n : Nat)) ∧ w' = w := fun w => by
    have h := Yba.bits_Len (n : Int) w (by omega) (by omega)
    rwa [Int.toNat_natCast, bitLen_eq _ (by omega)] at h
  have hk : bitsLen n ≤ 62 := (bitsLen_le_iff n 62).2 (by omega)
  have hp := wrap_two_pow (bitsLen n) hk
  go_enter Yba.func34, Yba.ntmps34
  go_wp2_with (first | (go_at_call 21; refine (hLen _).mono ?_; rintro e w' ⟨rfl, rfl⟩))
  go_ret
  exact ⟨rfl, rfl⟩

theorem Now.later {w wr w1 : World} {blk off B : Nat} {d : Array Int} (h : Now w blk off d wr) (hb : RowKit.Below B wr w1) (hB : blk < B) : Now w blk off d w1 :=
  ⟨h.1.trans (hb.mono (by omega)), holds_below h.2.1 hb hB, Nat.lt_of_lt_of_le h.2.2 hb.size⟩

theorem gen_swap {w : World} {rb X blk o o' : Nat} {u v : Value} (h : Gen w rb X) (hne : blk < rb) : Gen ((w.setCell ⟨blk, o, none⟩ u).setCell ⟨blk, o', none⟩ v).drew rb X := by
  obtain ⟨h1, h2, h3⟩ := h
  refine ⟨?_, ?_, by simpa using h3⟩
  · show ((w.setCell ⟨blk, o, none⟩ u).setCell ⟨blk, o', none⟩ v).cell? _ = _
    rw [World.cell?_setCell_other _ _ _ _ (by first | (simp; done) | (simp; omega)), World.cell?_setCell_other _ _ _ _ (by first | (simp; done) | (simp; omega))]
    exact h1
  · show ((w.setCell ⟨blk, o, none⟩ u).setCell ⟨blk, o', none⟩ v).frozen? _ = _
    rw [World.frozen?_setCell, World.frozen?_setCell]
    exact h2

set_option maxHeartbeats 4000000 in
set_option maxRecDepth 100000 in
theorem brk_len (n blk off cap a L : Nat) (d : Array Int) (w : World) (hn : d.size = n) (hH : Holds eU w blk off d) (hblk : blk < w.heap.size) (h8 : 8 ≤ L) (hb : a + L ≤ n) (hsz : n < 4611686018427387904) :
    Calls Yba.prog 24 #[.slice (some ⟨blk, off, none⟩) n cap, .int .i64 a, .int .i64 ((a : Int) + (L : Int))] w fun e w' => e = .returned (.tuple #[]) ∧ Now w blk off (breakPatterns d a (a + L)) w' := by
  rw [breakPatterns_eq d a L h8]
  have hcan : (a : Int) + (L : Int) - (a : Int) = (L : Int) := by omega
  obtain ⟨M, hM⟩ : ∃ M : Nat, M = 1 <<< bitsLen L := ⟨_, rfl⟩
  have hM1 : 1 ≤ M := by rw [hM, Nat.one_shiftLeft]; exact Nat.two_pow_pos _
  have hM2 : M ≤ 2 * L := by rw [hM, Nat.one_shiftLeft]; exact two_pow_bitsLen_le (by omega)
  have hNP : ∀ w, Calls Yba.prog 34 #[.int .i64 (L : Int)] w fun e w' => e = .returned (.int .u64 (M : Int)) ∧ w' = w := by rw [hM]; exact fun w => pow2_u64 L (by omega) w
  rw [← hM]
  clear hM
  have HNP := hide hNP
  clear hNP
  have HB0 : Hid (RowKit.Below w.heap.size w (w.alloc (.cells #[.int .u64 (L : Int)] 98))) := hide ((RowKit.Below.refl _ w).alloc (Nat.le_refl _) _)
  have HN0 : Hid (Now w blk off d (w.alloc (.cells #[.int .u64 (L : Int)] 98))) := hide ((Now.refl hH hblk).later HB0.out hblk)
  have HG0 : Hid (Gen (w.alloc (.cells #[.int .u64 (L : Int)] 98)) w.heap.size (UInt64.ofNat L).toNat) := hide (by
    rw [show (UInt64.ofNat L).toNat = L from by simp; omega]
    refine ⟨by simp, ?_, by simp⟩
    have e : (w.alloc (.cells #[.int .u64 (L : Int)] 98)).heap[w.heap.size]? = some (.cells #[.int .u64 (L : Int)] 98 (0, 0)) := by exact Array.getElem?_push_size
    unfold World.frozen?
    rw [e]
    rfl)
  clear hH HB0
  go_enter Yba.func24, Yba.ntmps24
  go_wp2_with fail
  refine (HNP.out _).mono ?_
  rintro e w' ⟨rfl, hw'⟩
  have hw2 := hw'.symm
  subst hw2
  clear HNP
  go_wp2
  go_loopw [9] (fun vi wr => ∃ (t : Nat) (r : UInt64) (dk : Array Int), vi = .int .i64 ((a + L / 4 * 2 - 1 + t : Nat) : Int) ∧ t ≤ 3 ∧ dk.size = n ∧ Now w blk off dk wr ∧ Gen wr w.heap.size r.toNat ∧
      bpRest a L M (a + L / 4 * 2 - 1) (3 - t) t (r, dk) = bpRest a L M (a + L / 4 * 2 - 1) 3 0 (UInt64.ofNat L, d)) (fun vi _ => a + L / 4 * 2 + 3 - natOf vi)
  case atStart => exact ⟨0, UInt64.ofNat L, d, by congr 1; omega, by omega, hn, HN0.out, HG0.out, rfl⟩
  case round =>
    obtain ⟨t, r, dk, rfl, ht, hsk, hN, hGn, hR⟩ := hrel
    obtain ⟨R', hR'⟩ : ∃ R' : Nat, R' = xorNextN r.toNat := ⟨_, rfl⟩
    have lR' : R' < 18446744073709551616 := by rw [hR']; exact xorNextN_lt _ r.toNat_lt
    obtain ⟨O, hO⟩ : ∃ O : Nat, O = R' &&& (M - 1) := ⟨_, rfl⟩
    have lO : O ≤ M - 1 := by rw [hO]; exact Nat.and_le_right
    have eAnd : bits .and .u64 (R' : Int) ((M : Int) - 1) = (O : Int) := by
      rw [show ((M : Int) - 1) = ((M - 1 : Nat) : Int) by omega, bits_and_u64_nat _ _ lR' (by omega), hO]
    have hNext := hide (next_u64 w.heap.size r.toNat r.toNat_lt wr hGn)
    rw [← hR'] at hNext
    have HX : Hid (R' = (xorNext r).toNat ∧ O = (xorNext r).toNat &&& (M - 1)) := hide (by
      have e : R' = (xorNext r).toNat := by rw [hR', xorNext_toNat]
      exact ⟨e, by rw [hO, e]⟩)
    have HR := hide hR
    have HN := hide hN
    clear hR hN hGn hR' hO HN0 HG0
    by_cases ht3 : t < 3
    · go_wp2_with fail
      refine hNext.out.mono ?_
      rintro e w1 ⟨rfl, hg1, hb1⟩
      have hN1 := HN.out.later hb1 hblk
      obtain ⟨G, hG, hcw, hfw⟩ := hN1.cells hsk
      have HN1 := hide hN1
      have HG := hide hG
      have HG1 := hide hg1
      clear hN1 hG hg1 hb1 hNext HN
      go_wp2
      · have hLO : L ≤ O := by omega
        by_cases hEq : a + L / 4 * 2 - 1 + t = a + (O - L)
        all_goals
          go_region
          all_goals go_wp2
          go_roundw
          case rel =>
            refine ⟨t + 1, xorNext r, swp dk (a + L / 4 * 2 - 1 + t) (a + (O - L)), by first | rfl | (congr 1 <;> omega), by omega, by rw [size_swp]; exact hsk, ?_, ?_, ?_⟩
            · (try rw [hEq])
              exact (HN1.out.swap (by omega) (by omega) (HG.out _) (HG.out _)).drew
            · rw [← HX.out.1]
              exact gen_swap HG1.out hblk
            · rw [← HR.out, bp_step a L M _ t r dk (O - L) (by omega) (by rw [← HX.out.2, if_pos (by omega)])]
          case measure => simp [natOf]; omega
      · have hLO : ¬ L ≤ O := by omega
        by_cases hEq : a + L / 4 * 2 - 1 + t = a + O
        all_goals
          go_region
          all_goals go_wp2
          go_roundw
          case rel =>
            refine ⟨t + 1, xorNext r, swp dk (a + L / 4 * 2 - 1 + t) (a + O), by first | rfl | (congr 1 <;> omega), by omega, by rw [size_swp]; exact hsk, ?_, ?_, ?_⟩
            · (try rw [hEq])
              exact (HN1.out.swap (by omega) (by omega) (HG.out _) (HG.out _)).drew
            · rw [← HX.out.1]
              exact gen_swap HG1.out hblk
            · rw [← HR.out, bp_step a L M _ t r dk O (by omega) (by rw [← HX.out.2, if_neg (by omega)])]
          case measure => simp [natOf]; omega
    · obtain rfl : t = 3 := by omega
      go_wp2
      go_end0
      refine ⟨rfl, ?_⟩
      rw [← HR.out]
      exact HN.out

set_option maxHeartbeats 1000000 in
theorem brk_u32 (n blk off cap a b : Nat) (d : Array Int) (w : World) (hn : d.size = n) (hH : Holds eU w blk off d) (hblk : blk < w.heap.size) (hab : a ≤ b) (hb : b ≤ n) (hsz : n < 4611686018427387904) :
    Calls Yba.prog 24 #[.slice (some ⟨blk, off, none⟩) n cap, .int .i64 a, .int .i64 b] w fun e w' => e = .returned (.tuple #[]) ∧ Now w blk off (breakPatterns d a b) w' := by
  by_cases h8 : 8 ≤ b - a
  · have h := brk_len n blk off cap a (b - a) d w hn hH hblk h8 (by omega) hsz
    rw [show (a : Int) + ((b - a : Nat) : Int) = (b : Int) by omega, show a + (b - a) = b by omega] at h
    exact h
  · have hv : breakPatterns d a b = d := by unfold breakPatterns; simp only []; rw [if_neg h8]
    rw [hv]
    have HN0 := hide (Now.refl hH hblk)
    have h8z : ¬ (8 : Int) ≤ (b : Int) - (a : Int) := by omega
    clear hH
    go_enter Yba.func24, Yba.ntmps24
    go_wp2
    go_end0
    exact ⟨rfl, HN0.out⟩
end Go.Proofs.Ybulkbte
