/- What both rpsl laws lean on. -/
import Derived.Test.YbulkbteAses
import Derived.Test.YbulkbteGuard
import Derived.Test.YbulkbteCheck
import Derived.Test.YbulkbteBuild
namespace Go.Proofs.Ybulkbte
open Go.RowKit Go.WideShapes

theorem Row.fr {D SS M : Nat} {w w' : World} {v : Value} {us : List Value} (h : Row D w v us) (hf : Fr D SS M w w') (hne : ∀ g, v.ownBlock = some g → g ≠ SS ∧ g ≠ M) : Row D w' v us := by
  obtain ⟨ao, c, rfl, h2, h3⟩ := h
  refine ⟨ao, c, rfl, h2, fun x hx j u hu => ?_⟩
  obtain ⟨a1, a2⟩ := h3 x hx j u hu
  subst hx
  have hn := hne x.block rfl
  refine ⟨a1, ?_⟩
  rw [World.cell?_of_block (w := w) (a := x.add j) (by rw [add_block]; exact hf.block x.block a1 hn.1 hn.2)]
  exact a2

theorem Blk.fr {D SS M g t : Nat} {w w' : World} {l : List Value} (h : Blk w g t l) (hf : Fr D SS M w w') (h1 : g < D) (h2 : g ≠ SS) (h3 : g ≠ M) : Blk w' g t l := by
  unfold Blk
  rw [hf.block g h1 h2 h3]
  exact h

theorem Idle.below {w w' : World} {D SS M n : Nat} {ix : Value} {r : Int} {fv : Value} (h : Idle w D SS M n ix r fv) (hb : Below w.heap.size w w') : Idle w' D SS M n ix r fv := by
  obtain ⟨mk, k, us, h1, h2, h3, h4, h5, h6, h7⟩ := h
  exact ⟨mk, k, us, h1, h2, h3, h4, h5.below hb h5.lt, h6.below hb h6.lt, own_below h7 hb (Nat.le_refl _)⟩

theorem cp_any {s0 k oc C : Nat} {oa : Option Addr} {w : World} {L : List Value} {os : List Int} (hk : os.length = k) (hL : L.length = k) (hb : Blk w s0 25 L) (hr : Row C w (.slice oa k oc) (os.map (Value.int .u32))) :
    ∃ w2, (Builtin.copy_ #[23, 23] 3 #[.slice (some ⟨s0, 0, none⟩) k k, .slice oa k oc]).run Yba.prog w = .ok (.int .i64 k) w2 ∧ Blk w2 s0 25 (os.map (Value.int .u32)) ∧ Below s0 w w2 := by
  cases oa with
  | none =>
    obtain ⟨ao, c, h1, h2, _⟩ := hr
    simp only [Value.slice.injEq] at h1
    obtain ⟨rfl, _, rfl⟩ := h1
    have h0 := (h2 rfl).1
    have hk0 : k = 0 := by have := congrArg List.length h0; rw [List.length_map] at this; rw [← hk, this]; rfl
    subst hk0
    refine ⟨w, cp_none _ _ _ _ _, ?_, Below.refl _ _⟩
    rw [h0, ← List.eq_nil_of_length_eq_zero hL]
    exact hb
  | some ad =>
    obtain ⟨ao, c, h1, h2, h3⟩ := hr
    simp only [Value.slice.injEq] at h1
    obtain ⟨rfl, _, rfl⟩ := h1
    exact cp_row hL (by rw [List.length_map, hk]) hb (fun j v hv => (h3 ad rfl j v hv).2) (by simp [Value.oneCell'])

theorem blk_owns {w : World} {D s0 k : Nat} {us : List Value} (h : Blk w s0 25 us) (hl : us.length = k) (hD : D ≤ s0) (hm : k ≤ maxLen) : w.ownsRow D 25 1 (.slice (some ⟨s0, 0, none⟩) k k) k us :=
  ⟨by omega, .inr ⟨s0, k, us.toArray, rfl, hD, h, Nat.le_refl _, hm, by simp [hl], by rw [Nat.mul_one, ← hl]; simp⟩⟩

theorem total_le {n ta ts : Nat} {a s : Nat → Nat} (hn : n ≤ 256) (hta : ta ≤ 256) (hts : ts ≤ 256) (ha : ∀ i, i < n → a i ≤ 256) (hs : ∀ i, i < n → s i ≤ 256) : total n ta ts a s ≤ 262912 := by
  unfold total
  have h1 : sumN n (fun i => 2 * (a i + s i)) ≤ sumN n (fun _ => 1024) := sumN_le (fun i hi => by have := ha i hi; have := hs i hi; omega)
  rw [sumN_const] at h1
  have h2 := Nat.mul_le_mul_right 1024 hn
  omega

theorem ixs_lt {n : Nat} {bs : List Int} (hn : 0 < n) : ∀ y ∈ ixs n bs, y < n := by
  intro y hy
  unfold ixs at hy
  obtain ⟨b, _, rfl⟩ := List.mem_map.1 hy
  exact Nat.mod_lt _ hn
theorem tops_lt {n : Nat} {bs : List Int} : ∀ y ∈ tops n bs, y < n := by
  intro y hy
  unfold tops at hy
  split at hy
  · cases hy
  · exact ixs_lt (by omega) y hy
theorem tops_len (n : Nat) (bs : List Int) : (tops n bs).length ≤ bs.length := by
  unfold tops ixs
  split <;> simp

/-- The answer of the search and of the model, sorted, are one. -/
theorem same_sorted {n : Nat} {A : Nat → List Int} {TA : List Int} {T : List Nat} {S : Nat → List Nat} {fs : List Nat} {rs : Nat → Bool} (hnd : fs.Nodup) (hfn : ∀ x ∈ fs, x < n) (hfs : ∀ x, x ∈ fs ↔ Reach T S x) (hrs : ∀ x, x < n → (rs x = true ↔ Reach T S x)) :
    srt (TA ++ ((List.range n).filter rs).flatMap A) = srt (TA ++ fs.flatMap A) := by
  refine srt_perm (List.Perm.append_left TA (flat_perm (perm_of_mem (List.nodup_range.sublist List.filter_sublist) hnd (fun x => ?_)) A))
  rw [List.mem_filter, List.mem_range]
  constructor
  · rintro ⟨h1, h2⟩; exact (hfs x).2 ((hrs x h1).1 h2)
  · intro h; exact ⟨hfn x h, (hrs x (hfn x h)).2 ((hfs x).1 h)⟩
end Go.Proofs.Ybulkbte
