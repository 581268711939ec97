/- slices.Sort at uint32: the top. -/
import Derived.Test.YbulkbteSortH
import Derived.Sort.WalkA14
namespace Go.Proofs.Ybulkbte
open Go.RowKit Go.WideShapes Go.Sort

set_option maxHeartbeats 4000000 in
set_option maxRecDepth 100000 in
theorem sort_u32 (blk off cap n : Nat) (d : Array Int) (w : World) (hn : d.size = n) (hH : Holds eU w blk off d) (hblk : blk < w.heap.size) (hsz : n < 4611686018427387904) :
    Calls Yba.prog 17 #[.slice (some ⟨blk, off, none⟩) n cap] w fun e w' => e = .returned (.tuple #[]) ∧ Now w blk off (Sort.sort ltInt d) w' := by
  have HLen : Hid (∀ w, Calls Yba.prog 21 #[.int .u64 (n : Int)] w fun e w' => e = .returned (.int .i64 (bitsLen n : Nat)) ∧ w' = w) := hide (fun w => by
    have h := Yba.bits_Len (n : Int) w (by omega) (by omega)
    rwa [Int.toNat_natCast, bitLen_eq _ (by omega)] at h)
  have hk : bitsLen n ≤ 62 := (bitsLen_le_iff n 62).2 (by omega)
  have HS := hide (pdq_u32 (n + 1) blk off cap n 0 n (bitsLen n) d w (by omega) hn hH hblk (Nat.zero_le _) (Nat.le_refl _) hsz (by omega) (Or.inl rfl))
  have HE : Hid (pdq ltInt d 0 n (bitsLen n) true true = Sort.sort ltInt d) := hide (by unfold Sort.sort; rw [hn])
  clear hH hn
  go_enter Yba.func17, Yba.ntmps17
  go_wp2_with (first
    | (go_at_call 21; refine (HLen.out _).mono ?_; rintro e w' ⟨rfl, rfl⟩)
    | (go_at_call 20; refine HS.out.mono ?_; rintro e w1 ⟨rfl, hw1⟩))
  go_end0
  exact ⟨rfl, by rw [← HE.out]; exact hw1⟩

theorem ins_nil (p : Option Addr) (cap : Nat) (w : World) :
    Calls Yba.prog 22 #[.slice p 0 cap, .int .i64 0, .int .i64 0] w fun e w' => e = .returned (.tuple #[]) ∧ w' = w := by
  go_enter Yba.func22, Yba.ntmps22
  go_wp2
  refine wp_loop_rounds 1 ?_
  rw [rounds_succ]
  go_wp2
  go_end0
  exact ⟨rfl, rfl⟩

set_option maxRecDepth 100000 in
theorem pdq_nil (p : Option Addr) (cap : Nat) (w : World) :
    Calls Yba.prog 20 #[.slice p 0 cap, .int .i64 0, .int .i64 0, .int .i64 0] w fun e w' => e = .returned (.tuple #[]) ∧ w' = w := by
  go_enter Yba.func20, Yba.ntmps20
  go_wp2
  refine wp_loop_rounds 1 ?_
  rw [rounds_succ]
  go_wp2_with (first | (go_at_call 22; refine (ins_nil p cap _).mono ?_; rintro e w' ⟨rfl, rfl⟩))
  refine bodyPost_ret (results_none rfl _ _ _) rfl ?_
  exact ⟨rfl, rfl⟩

set_option maxRecDepth 100000 in
theorem sort_nil (p : Option Addr) (cap : Nat) (w : World) :
    Calls Yba.prog 17 #[.slice p 0 cap] w fun e w' => e = .returned (.tuple #[]) ∧ w' = w := by
  have hLen : ∀ w, Calls Yba.prog 21 #[.int .u64 0] w fun e w' => e = .returned (.int .i64 0) ∧ w' = w := fun w => Yba.bits_Len 0 w (by omega) (by omega)
  go_enter Yba.func17, Yba.ntmps17
  go_wp2_with (first
    | (go_at_call 21; refine (hLen _).mono ?_; rintro e w' ⟨rfl, rfl⟩)
    | (go_at_call 20; refine (pdq_nil p cap _).mono ?_; rintro e w' ⟨rfl, rfl⟩))
  go_end0
  exact ⟨rfl, rfl⟩

/-- The sorted list. -/
def srt (zs : List Int) : List Int := zs.mergeSort (fun x y => decide (x ≤ y))

theorem srt_length (zs : List Int) : (srt zs).length = zs.length := by simp [srt, List.length_mergeSort]

/-- A row of uint32 of the call's own, sorted. -/
theorem sort_row (g cap : Nat) (zs : List Int) (w : World) (hg : g < w.heap.size) (hc : ∀ t, t < zs.length → w.cell? ⟨g, t, none⟩ = some (.int .u32 (zs.getD t 0)) ∧ w.frozen? ⟨g, t, none⟩ = false) (hsz : zs.length < 4611686018427387904) :
    Calls Yba.prog 17 #[.slice (some ⟨g, 0, none⟩) zs.length cap] w fun e w' => e = .returned (.tuple #[]) ∧ RowKit.Below g w w' ∧ g < w'.heap.size ∧ ∀ t, t < zs.length → w'.cell? ⟨g, t, none⟩ = some (.int .u32 ((srt zs).getD t 0)) := by
  refine (sort_u32 g 0 cap zs.length zs.toArray w (by simp) ?_ hg hsz).mono ?_
  · intro t ht
    have h := hc t (by simpa using ht)
    rw [Nat.zero_add]
    refine ⟨?_, h.2⟩
    rw [h.1]
    simp [eU, List.getElem?_eq_getElem (show t < zs.length by simpa using ht)]
  · rintro e w' ⟨rfl, hB, hH, hlt⟩
    refine ⟨rfl, hB, hlt, fun t ht => ?_⟩
    have hl : (Sort.sort ltInt zs.toArray).toList = srt zs := sortInt zs
    have hsz2 : (Sort.sort ltInt zs.toArray).size = zs.length := by rw [← Array.length_toList, hl, srt_length]
    have := (hH t (by omega)).1
    rw [Nat.zero_add] at this
    rw [this, ← hl]
    simp [eU, hsz2, ht]
end Go.Proofs.Ybulkbte
