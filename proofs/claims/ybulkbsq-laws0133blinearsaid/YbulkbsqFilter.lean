/- The filter behind Keep and Drop; the two 'by' functions. -/
import Derived.Test.YbulkbsqLab
namespace Go.Proofs.Ybulkbsq
open Go.RowKit Go.WideShapes

abbrev Lb := ByteArray × ByteArray
def noL : Lb := (ByteArray.empty, ByteArray.empty)
/-- Labels as cells. -/
def labCells (ls : List Lb) : List Value := ls.flatMap fun l => [.string l.1, .string l.2]

/-- The slice (a, n, ..) leads to the labels 'ls', in blocks that 'ok' lets. -/
def LabRow (ok : Nat → Prop) (w : World) (a : Option Addr) (n : Nat) (ls : List Lb) : Prop :=
  ls.length = n ∧ (n = 0 ∨ ∃ b off : Nat, a = some ⟨b, off, none⟩ ∧ ok b ∧ ∀ i, i < n → w.cell? ⟨b, off + i * 2, none⟩ = some (.string (ls.getD i noL).1) ∧ w.cell? ⟨b, off + i * 2 + 1, none⟩ = some (.string (ls.getD i noL).2))

theorem Yba.info53 : (Yba.prog.info? 53).map (fun i => (i.zero, i.size, i.bytes)) = some (some (.agg #[.string ByteArray.empty, .string ByteArray.empty]), 2, 32) := by kernel_rfl


theorem labCells_append (a b : List Lb) : labCells (a ++ b) = labCells a ++ labCells b := by simp [labCells]
theorem labCells_length (a : List Lb) : (labCells a).length = a.length * 2 := by
  induction a with
  | nil => rfl
  | cons x r ih => simp [labCells] at ih ⊢; omega
theorem labCells_one (l : Lb) : labCells [l] = [.string l.1, .string l.2] := rfl

/-- The labels among the first k that p keeps. -/
def filt (p : ByteArray → Bool) (ls : List Lb) (k : Nat) : List Lb := (ls.take k).filter fun l => p l.1
theorem filt_hit (p : ByteArray → Bool) (ls : List Lb) (k : Nat) (hk : k < ls.length) (h : p (ls.getD k noL).1 = true) : filt p ls (k + 1) = filt p ls k ++ [ls.getD k noL] := by
  unfold filt
  rw [List.take_succ_eq_append_getElem hk, List.filter_append]
  simp [hk] at h
  simp [h, hk]
theorem filt_miss (p : ByteArray → Bool) (ls : List Lb) (k : Nat) (hk : k < ls.length) (h : p (ls.getD k noL).1 = false) : filt p ls (k + 1) = filt p ls k := by
  unfold filt
  rw [List.take_succ_eq_append_getElem hk, List.filter_append]
  simp [hk] at h
  simp [h]
theorem filt_le (p : ByteArray → Bool) (ls : List Lb) (k : Nat) : (filt p ls k).length ≤ k := by
  unfold filt
  exact Nat.le_trans (List.length_filter_le _ _) (by simp; omega)
theorem filt_all (p : ByteArray → Bool) (ls : List Lb) (k : Nat) (hk : ls.length ≤ k) : filt p ls k = ls.filter fun l => p l.1 := by
  unfold filt; rw [List.take_of_length_le hk]

/-- The two cells of a label that lies in a block of its own. -/
theorem cells_lab (w : World) (x y : Value) (t : TypeId) : ∀ j u, [x, y][j]? = some u → (w.alloc (.cells #[x, y] t)).cell? ((⟨w.heap.size, 0, none⟩ : Addr).add j) = some u := by
  intro j u hj
  match j, hj with
  | 0, hj => simp at hj; subst hj; rw [add_plain]; simp
  | 1, hj => simp at hj; subst hj; rw [add_plain]; simp

set_option maxHeartbeats 1000000 in
set_option maxRecDepth 100000 in
theorem filter_pos40 (q b off n c : Nat) (p : ByteArray → Bool) (ls : List Lb) (w : World) (hl : ls.length = n) (hn : n ≤ 1024) (hb : b < w.heap.size)
    (hc : ∀ i, i < n → w.cell? ⟨b, off + i * 2, none⟩ = some (.string (ls.getD i noL).1) ∧ w.cell? ⟨b, off + i * 2 + 1, none⟩ = some (.string (ls.getD i noL).2))
    (hp : ∀ (s : ByteArray) (wx : World), Below w.heap.size w wx → Calls Yba.prog 40 #[.string s, .pointer (some ⟨q, 0, none⟩)] wx fun e w' => e = .returned (.bool (p s)) ∧ w' = wx) :
    Calls Yba.prog 39 #[.slice (some ⟨b, off, none⟩) n c, .func (.func 40) #[] #[.pointer (some ⟨q, 0, none⟩)]] w fun e w' =>
      e = .returned (.slice (some ⟨w.heap.size, 0, none⟩) (ls.filter fun l => p l.1).length n) ∧ w'.ownsRow w.heap.size 53 2 (.slice (some ⟨w.heap.size, 0, none⟩) (ls.filter fun l => p l.1).length n) (ls.filter fun l => p l.1).length (labCells (ls.filter fun l => p l.1)) ∧ Below w.heap.size w w' := by
  obtain ⟨i0, hi, hz0, hz1, hz2⟩ := info_parts Yba.info53
  have HC := hide hc
  have HPP := hide hp
  clear hc hp
  go_enter Yba.func39, Yba.ntmps39
  go_wp2_with (at_make; refine wpList_make_own _ rfl (.const (.int .i64 0)) (.tmp 9) 50 rfl w.heap.size 53 i0 (.agg #[.string ByteArray.empty, .string ByteArray.empty]) 2 Yba.underlying50 hi hz0 hz1 .i64 .i64 _ n rfl rfl rfl (by rw [hz2]; omega) (by unfold maxLen; omega) (Nat.le_refl _) ?_; intro w1 hown hgrow; have HO := hide hown; have HG := hide hgrow; clear hown hgrow)
  have hbel : Below w.heap.size w w1 := (Below.refl _ _).grown HG.out (Nat.le_refl _) (fun k hk => by cases hk)
  go_loopw [5, 13] (fun v i wr => ∃ k : Nat, k ≤ n ∧ i = .int .i64 k ∧ v = .slice (some ⟨w.heap.size, 0, none⟩) (filt p ls k).length n ∧ wr.ownsRow w.heap.size 53 2 (.slice (some ⟨w.heap.size, 0, none⟩) (filt p ls k).length n) (filt p ls k).length (labCells (filt p ls k)) ∧ Below w.heap.size w wr) (fun _ i _ => n - (intOf i).toNat)
  case atStart => exact ⟨0, Nat.zero_le _, rfl, rfl, HO.out, hbel⟩
  case round =>
    obtain ⟨k, hk, rfl, rfl, hown, hbr⟩ := hrel
    clear hbel HO HG
    by_cases hlt : k < n
    · obtain ⟨q0, q1⟩ := HC.out k hlt
      have r0 := hbr.cell (p := ⟨b, off + k * 2, none⟩) hb
      rw [q0] at r0
      have r1 := hbr.cell (p := ⟨b, off + k * 2 + 1, none⟩) hb
      rw [q1] at r1
      clear q0 q1
      have hk1 : (k : Int) < (n : Int) := by omega
      have hfl := filt_le p ls k
      have hbs := hbr.size
      have HCL := hide (fun s wx h => HPP.out s wx (hbr.trans h))
      have HHIT := hide (filt_hit p ls k (by omega))
      have HMISS := hide (filt_miss p ls k (by omega))
      obtain ⟨x, hx⟩ : ∃ x, x = (ls.getD k noL) := ⟨_, rfl⟩
      rw [← hx] at r0 r1 HHIT HMISS
      have HO := hide hown
      have HB := hide hbr
      clear hx hown hbr
      go_wp2_with fail
      refine (HCL.out x.1 _ ((Below.refl _ _).alloc (Nat.le_refl _) _ |>.mono hbs)).mono ?_
      rintro e w' ⟨rfl, rfl⟩
      by_cases hpx : p x.1 = true
      · have HF := hide (HHIT.out hpx)
        have hcl := cells_lab (wr.alloc (.cells #[.string x.1, .string x.2] 53)) (.string x.1) (.string x.2) 53
        rw [show (wr.alloc (.cells #[.string x.1, .string x.2] 53)).heap.size = wr.heap.size + 1 by simp] at hcl
        have HCE := hide hcl
        clear hcl HCL HHIT HMISS
        go_wp2_with (at_builtin; refine wpList_append_fits _ rfl (.tmp 21) (.tmp 23) 50 rfl w.heap.size 53 i0 2 Yba.underlying50 hi hz1 w.heap.size (filt p ls k).length n (labCells (filt p ls k)) rfl ((HO.out.alloc _).alloc _) ⟨wr.heap.size + 1, 0, none⟩ 1 1 [.string x.1, .string x.2] rfl rfl HCE.out (by simp [Value.oneCell']) (by omega) ?_; intro w2 hown2 hgrow2; have HO2 := hide hown2; have HG2 := hide hgrow2; clear hown2 hgrow2)
        go_roundw
        case rel =>
          refine ⟨k + 1, by omega, by go_num, ?_, ?_, ?_⟩
          · rw [HF.out]; simp
          · rw [HF.out, labCells_append, labCells_one]; simpa using HO2.out
          · exact ((HB.out.alloc hbs _).alloc (by simp; omega) _).grown HG2.out (by simp; omega) (fun k hk => by cases hk; exact Nat.le_refl _)
        case measure => simp [intOf]; omega
      · have hpf : p x.1 = false := by simpa using hpx
        have HF := hide (HMISS.out hpf)
        clear hpx HCL HHIT HMISS
        go_wp2
        go_roundw
        case rel =>
          refine ⟨k + 1, by omega, by go_num, ?_, ?_, ?_⟩
          · rw [HF.out]
          · rw [HF.out]; exact HO.out.alloc _
          · exact HB.out.alloc hbs _
        case measure => simp [intOf]; omega
    · obtain rfl : k = n := by omega
      have hfa := filt_all p ls k (by omega)
      rw [hfa] at hown ⊢
      have HO := hide hown
      have HB := hide hbr
      clear hown hbr hfa
      go_wp2
      go_ret
      exact ⟨rfl, HO.out, HB.out⟩

set_option maxHeartbeats 1000000 in
set_option maxRecDepth 100000 in
theorem filter_pos42 (q b off n c : Nat) (p : ByteArray → Bool) (ls : List Lb) (w : World) (hl : ls.length = n) (hn : n ≤ 1024) (hb : b < w.heap.size)
    (hc : ∀ i, i < n → w.cell? ⟨b, off + i * 2, none⟩ = some (.string (ls.getD i noL).1) ∧ w.cell? ⟨b, off + i * 2 + 1, none⟩ = some (.string (ls.getD i noL).2))
    (hp : ∀ (s : ByteArray) (wx : World), Below w.heap.size w wx → Calls Yba.prog 42 #[.string s, .pointer (some ⟨q, 0, none⟩)] wx fun e w' => e = .returned (.bool (p s)) ∧ w' = wx) :
    Calls Yba.prog 39 #[.slice (some ⟨b, off, none⟩) n c, .func (.func 42) #[] #[.pointer (some ⟨q, 0, none⟩)]] w fun e w' =>
      e = .returned (.slice (some ⟨w.heap.size, 0, none⟩) (ls.filter fun l => p l.1).length n) ∧ w'.ownsRow w.heap.size 53 2 (.slice (some ⟨w.heap.size, 0, none⟩) (ls.filter fun l => p l.1).length n) (ls.filter fun l => p l.1).length (labCells (ls.filter fun l => p l.1)) ∧ Below w.heap.size w w' := by
  obtain ⟨i0, hi, hz0, hz1, hz2⟩ := info_parts Yba.info53
  have HC := hide hc
  have HPP := hide hp
  clear hc hp
  go_enter Yba.func39, Yba.ntmps39
  go_wp2_with (at_make; refine wpList_make_own _ rfl (.const (.int .i64 0)) (.tmp 9) 50 rfl w.heap.size 53 i0 (.agg #[.string ByteArray.empty, .string ByteArray.empty]) 2 Yba.underlying50 hi hz0 hz1 .i64 .i64 _ n rfl rfl rfl (by rw [hz2]; omega) (by unfold maxLen; omega) (Nat.le_refl _) ?_; intro w1 hown hgrow; have HO := hide hown; have HG := hide hgrow; clear hown hgrow)
  have hbel : Below w.heap.size w w1 := (Below.refl _ _).grown HG.out (Nat.le_refl _) (fun k hk => by cases hk)
  go_loopw [5, 13] (fun v i wr => ∃ k : Nat, k ≤ n ∧ i = .int .i64 k ∧ v = .slice (some ⟨w.heap.size, 0, none⟩) (filt p ls k).length n ∧ wr.ownsRow w.heap.size 53 2 (.slice (some ⟨w.heap.size, 0, none⟩) (filt p ls k).length n) (filt p ls k).length (labCells (filt p ls k)) ∧ Below w.heap.size w wr) (fun _ i _ => n - (intOf i).toNat)
  case atStart => exact ⟨0, Nat.zero_le _, rfl, rfl, HO.out, hbel⟩
  case round =>
    obtain ⟨k, hk, rfl, rfl, hown, hbr⟩ := hrel
    clear hbel HO HG
    by_cases hlt : k < n
    · obtain ⟨q0, q1⟩ := HC.out k hlt
      have r0 := hbr.cell (p := ⟨b, off + k * 2, none⟩) hb
      rw [q0] at r0
      have r1 := hbr.cell (p := ⟨b, off + k * 2 + 1, none⟩) hb
      rw [q1] at r1
      clear q0 q1
      have hk1 : (k : Int) < (n : Int) := by omega
      have hfl := filt_le p ls k
      have hbs := hbr.size
      have HCL := hide (fun s wx h => HPP.out s wx (hbr.trans h))
      have HHIT := hide (filt_hit p ls k (by omega))
      have HMISS := hide (filt_miss p ls k (by omega))
      obtain ⟨x, hx⟩ : ∃ x, x = (ls.getD k noL) := ⟨_, rfl⟩
      rw [← hx] at r0 r1 HHIT HMISS
      have HO := hide hown
      have HB := hide hbr
      clear hx hown hbr
      go_wp2_with fail
      refine (HCL.out x.1 _ ((Below.refl _ _).alloc (Nat.le_refl _) _ |>.mono hbs)).mono ?_
      rintro e w' ⟨rfl, rfl⟩
      by_cases hpx : p x.1 = true
      · have HF := hide (HHIT.out hpx)
        have hcl := cells_lab (wr.alloc (.cells #[.string x.1, .string x.2] 53)) (.string x.1) (.string x.2) 53
        rw [show (wr.alloc (.cells #[.string x.1, .string x.2] 53)).heap.size = wr.heap.size + 1 by simp] at hcl
        have HCE := hide hcl
        clear hcl HCL HHIT HMISS
        go_wp2_with (at_builtin; refine wpList_append_fits _ rfl (.tmp 21) (.tmp 23) 50 rfl w.heap.size 53 i0 2 Yba.underlying50 hi hz1 w.heap.size (filt p ls k).length n (labCells (filt p ls k)) rfl ((HO.out.alloc _).alloc _) ⟨wr.heap.size + 1, 0, none⟩ 1 1 [.string x.1, .string x.2] rfl rfl HCE.out (by simp [Value.oneCell']) (by omega) ?_; intro w2 hown2 hgrow2; have HO2 := hide hown2; have HG2 := hide hgrow2; clear hown2 hgrow2)
        go_roundw
        case rel =>
          refine ⟨k + 1, by omega, by go_num, ?_, ?_, ?_⟩
          · rw [HF.out]; simp
          · rw [HF.out, labCells_append, labCells_one]; simpa using HO2.out
          · exact ((HB.out.alloc hbs _).alloc (by simp; omega) _).grown HG2.out (by simp; omega) (fun k hk => by cases hk; exact Nat.le_refl _)
        case measure => simp [intOf]; omega
      · have hpf : p x.1 = false := by simpa using hpx
        have HF := hide (HMISS.out hpf)
        clear hpx HCL HHIT HMISS
        go_wp2
        go_roundw
        case rel =>
          refine ⟨k + 1, by omega, by go_num, ?_, ?_, ?_⟩
          · rw [HF.out]
          · rw [HF.out]; exact HO.out.alloc _
          · exact HB.out.alloc hbs _
        case measure => simp [intOf]; omega
    · obtain rfl : k = n := by omega
      have hfa := filt_all p ls k (by omega)
      rw [hfa] at hown ⊢
      have HO := hide hown
      have HB := hide hbr
      clear hown hbr hfa
      go_wp2
      go_ret
      exact ⟨rfl, HO.out, HB.out⟩

/-- What the filter hands back. -/
def Filtered (w : World) (p : ByteArray → Bool) (ls : List Lb) (n : Nat) (e : Ending) (w' : World) : Prop :=
  e = .returned (.slice (some ⟨w.heap.size, 0, none⟩) (ls.filter fun l => p l.1).length n) ∧ w'.ownsRow w.heap.size 53 2 (.slice (some ⟨w.heap.size, 0, none⟩) (ls.filter fun l => p l.1).length n) (ls.filter fun l => p l.1).length (labCells (ls.filter fun l => p l.1)) ∧ Below w.heap.size w w'

set_option maxHeartbeats 1000000 in
set_option maxRecDepth 100000 in
theorem filter_zero (K q : Nat) (a : Option Addr) (c : Nat) (p : ByteArray → Bool) (w : World) :
    Calls Yba.prog 39 #[.slice a 0 c, .func (.func K) #[] #[.pointer (some ⟨q, 0, none⟩)]] w fun e w' => Filtered w p [] 0 e w' := by
  obtain ⟨i0, hi, hz0, hz1, hz2⟩ := info_parts Yba.info53
  go_enter Yba.func39, Yba.ntmps39
  go_wp2_with (at_make; refine wpList_make_own _ rfl (.const (.int .i64 0)) (.tmp 9) 50 rfl w.heap.size 53 i0 (.agg #[.string ByteArray.empty, .string ByteArray.empty]) 2 Yba.underlying50 hi hz0 hz1 .i64 .i64 _ 0 rfl rfl rfl (by omega) (by decide) (Nat.le_refl _) ?_; intro w1 hown hgrow; have HO := hide hown; have HG := hide hgrow; clear hown hgrow)
  have HB := hide ((Below.refl w.heap.size w).grown HG.out (Nat.le_refl _) (fun k hk => by cases hk))
  clear HG
  refine wp_loop_rounds 1 ?_
  rw [rounds_succ]
  go_wp2
  go_ret
  exact ⟨rfl, HO.out, HB.out⟩

theorem filter_any {ok : Nat → Prop} (wo : Bool) (q : Nat) (a : Option Addr) (n c : Nat) (ss : List ByteArray) (ls : List Lb) (w : World) (hr : LabRow ok w a n ls) (hn : n ≤ 1024) (hs : ss.length ≤ 100000) (hb : Bound (fun _ => True) w q ss) :
    Calls Yba.prog 39 #[.slice a n c, .func (.func (inFn wo)) #[] #[.pointer (some ⟨q, 0, none⟩)]] w fun e w' => Filtered w (keepP wo ss) ls n e w' := by
  rcases hr.2 with h0 | ⟨b, off, rfl, _, hc⟩
  · subst h0
    have : ls = [] := List.eq_nil_of_length_eq_zero hr.1
    subst this
    exact filter_zero (inFn wo) q a c (keepP wo ss) w
  · by_cases h0 : n = 0
    · subst h0
      have : ls = [] := List.eq_nil_of_length_eq_zero hr.1
      subst this
      exact filter_zero (inFn wo) q _ c (keepP wo ss) w
    · have hlt : b < w.heap.size := cell_lt (hc 0 (by omega)).1
      cases wo
      · exact filter_pos40 q b off n c (keepP false ss) ls w hr.1 hn hlt hc (fun s wx h => keep1 s q ss wx (hb.below h (Nat.le_refl _)) hs)
      · exact filter_pos42 q b off n c (keepP true ss) ls w hr.1 hn hlt hc (fun s wx h => drop1 s q ss wx (hb.below h (Nat.le_refl _)) hs)

theorem LabRow.below {ok : Nat → Prop} {B : Nat} {w w' : World} {a : Option Addr} {n : Nat} {ls : List Lb} (h : LabRow ok w a n ls) (hb : Below B w w') (hB : w.heap.size ≤ B) : LabRow ok w' a n ls := by
  refine ⟨h.1, ?_⟩
  rcases h.2 with h0 | ⟨b, off, hx, ho, hc⟩
  · exact .inl h0
  · refine .inr ⟨b, off, hx, ho, fun i hi => ?_⟩
    obtain ⟨c0, c1⟩ := hc i hi
    exact ⟨by rw [hb.cell (Nat.lt_of_lt_of_le (cell_lt c0) hB)]; exact c0, by rw [hb.cell (Nat.lt_of_lt_of_le (cell_lt c1) hB)]; exact c1⟩

/-- What the 'by' function hands back: a slice v of the kept labels, in memory of its own. -/
def ByGives (w : World) (p : ByteArray → Bool) (ls : List Lb) (e : Ending) (w' : World) : Prop :=
  ∃ g cap, e = .returned (.slice (some ⟨g, 0, none⟩) (ls.filter fun l => p l.1).length cap) ∧ w'.ownsRow w.heap.size 53 2 (.slice (some ⟨g, 0, none⟩) (ls.filter fun l => p l.1).length cap) (ls.filter fun l => p l.1).length (labCells (ls.filter fun l => p l.1)) ∧ Below w.heap.size w w'

set_option maxHeartbeats 400000 in
theorem keep_any {ok ok' : Nat → Prop} (la : Option Addr) (ln lc : Nat) (a : Option Addr) (n c : Nat) (ss : List ByteArray) (ls : List Lb) (w : World) (hr : LabRow ok w la ln ls) (hn : ln ≤ 1024) (hs : ss.length ≤ 100000) (hb : StrRow ok' w a n ss) :
    Calls Yba.prog 24 #[.slice la ln lc, .slice a n c] w fun e w' => ByGives w (keepP false ss) ls e w' := by
  have hbel : Below w.heap.size w (w.alloc (.cells #[.slice a n c] 22)) := (Below.refl _ _).alloc (Nat.le_refl _) _
  have HF := hide (filter_any false w.heap.size la ln lc ss ls (w.alloc (.cells #[.slice a n c] 22)) (hr.below hbel (Nat.le_refl _)) hn hs ⟨a, n, c, by simp, (hb.mono (fun _ _ => trivial)).below hbel (Nat.le_refl _)⟩)
  have HB := hide hbel
  clear hr hb hbel
  go_enter Yba.func24, Yba.ntmps24
  go_wp2_with fail
  refine HF.out.mono ?_
  rintro e w' ⟨rfl, hown, hb2⟩
  have HFIN : Hid (ByGives w (keepP false ss) ls (.returned (.slice (some ⟨(w.alloc (.cells #[.slice a n c] 22)).heap.size, 0, none⟩) (ls.filter fun l => keepP false ss l.1).length ln)) w') :=
    hide ⟨_, _, rfl, ⟨hown.1, by rcases hown.2 with h | ⟨g, cap, cur, h1, h2, h3⟩; exact .inl h; exact .inr ⟨g, cap, cur, h1, by simp at h2; omega, h3⟩⟩, HB.out.trans (hb2.mono (by simp))⟩
  rw [show (w.alloc (.cells #[.slice a n c] 22)).heap.size = w.heap.size + 1 by simp] at HFIN
  clear hown hb2 HF HB
  go_wp2
  go_ret
  exact HFIN.out

set_option maxHeartbeats 400000 in
theorem by_keep {ok ok' : Nat → Prop} (la : Option Addr) (ln lc g : Nat) (ss : List ByteArray) (ls : List Lb) (w : World) (hr : LabRow ok w la ln ls) (hn : ln ≤ 1024) (hs : ss.length ≤ 100000) (hb : Bound ok' w g ss) :
    Calls Yba.prog 23 #[.slice la ln lc, .pointer (some ⟨g, 0, none⟩)] w fun e w' => ByGives w (keepP false ss) ls e w' := by
  obtain ⟨a, n, c, h1, h2⟩ := hb
  have HF := hide (keep_any la ln lc a n c ss ls w hr hn hs h2)
  clear hr h2
  go_enter Yba.func23, Yba.ntmps23
  go_wp2_with fail
  refine HF.out.mono ?_
  rintro e w' ⟨g', cap, rfl, hown, hb2⟩
  have HFIN : Hid (ByGives w (keepP false ss) ls (.returned (.slice (some ⟨g', 0, none⟩) (ls.filter fun l => keepP false ss l.1).length cap)) w') := hide ⟨g', cap, rfl, hown, hb2⟩
  clear hown hb2 HF
  go_wp2
  go_ret
  exact HFIN.out

set_option maxHeartbeats 400000 in
theorem drop_any {ok ok' : Nat → Prop} (la : Option Addr) (ln lc : Nat) (a : Option Addr) (n c : Nat) (ss : List ByteArray) (ls : List Lb) (w : World) (hr : LabRow ok w la ln ls) (hn : ln ≤ 1024) (hs : ss.length ≤ 100000) (hb : StrRow ok' w a n ss) :
    Calls Yba.prog 26 #[.slice la ln lc, .slice a n c] w fun e w' => ByGives w (keepP true ss) ls e w' := by
  have hbel : Below w.heap.size w (w.alloc (.cells #[.slice a n c] 22)) := (Below.refl _ _).alloc (Nat.le_refl _) _
  have HF := hide (filter_any true w.heap.size la ln lc ss ls (w.alloc (.cells #[.slice a n c] 22)) (hr.below hbel (Nat.le_refl _)) hn hs ⟨a, n, c, by simp, (hb.mono (fun _ _ => trivial)).below hbel (Nat.le_refl _)⟩)
  have HB := hide hbel
  clear hr hb hbel
  go_enter Yba.func26, Yba.ntmps26
  go_wp2_with fail
  refine HF.out.mono ?_
  rintro e w' ⟨rfl, hown, hb2⟩
  have HFIN : Hid (ByGives w (keepP true ss) ls (.returned (.slice (some ⟨(w.alloc (.cells #[.slice a n c] 22)).heap.size, 0, none⟩) (ls.filter fun l => keepP true ss l.1).length ln)) w') :=
    hide ⟨_, _, rfl, ⟨hown.1, by rcases hown.2 with h | ⟨g, cap, cur, h1, h2, h3⟩; exact .inl h; exact .inr ⟨g, cap, cur, h1, by simp at h2; omega, h3⟩⟩, HB.out.trans (hb2.mono (by simp))⟩
  rw [show (w.alloc (.cells #[.slice a n c] 22)).heap.size = w.heap.size + 1 by simp] at HFIN
  clear hown hb2 HF HB
  go_wp2
  go_ret
  exact HFIN.out

set_option maxHeartbeats 400000 in
theorem by_drop {ok ok' : Nat → Prop} (la : Option Addr) (ln lc g : Nat) (ss : List ByteArray) (ls : List Lb) (w : World) (hr : LabRow ok w la ln ls) (hn : ln ≤ 1024) (hs : ss.length ≤ 100000) (hb : Bound ok' w g ss) :
    Calls Yba.prog 25 #[.slice la ln lc, .pointer (some ⟨g, 0, none⟩)] w fun e w' => ByGives w (keepP true ss) ls e w' := by
  obtain ⟨a, n, c, h1, h2⟩ := hb
  have HF := hide (drop_any la ln lc a n c ss ls w hr hn hs h2)
  clear hr h2
  go_enter Yba.func25, Yba.ntmps25
  go_wp2_with fail
  refine HF.out.mono ?_
  rintro e w' ⟨g', cap, rfl, hown, hb2⟩
  have HFIN : Hid (ByGives w (keepP true ss) ls (.returned (.slice (some ⟨g', 0, none⟩) (ls.filter fun l => keepP true ss l.1).length cap)) w') := hide ⟨g', cap, rfl, hown, hb2⟩
  clear hown hb2 HF
  go_wp2
  go_ret
  exact HFIN.out

theorem by_any {ok ok' : Nat → Prop} (wo : Bool) (la : Option Addr) (ln lc g : Nat) (ss : List ByteArray) (ls : List Lb) (w : World) (hr : LabRow ok w la ln ls) (hn : ln ≤ 1024) (hs : ss.length ≤ 100000) (hb : Bound ok' w g ss) :
    Calls Yba.prog (byFn wo) #[.slice la ln lc, .pointer (some ⟨g, 0, none⟩)] w fun e w' => ByGives w (keepP wo ss) ls e w' := by
  cases wo
  · exact by_keep la ln lc g ss ls w hr hn hs hb
  · exact by_drop la ln lc g ss ls w hr hn hs hb
end Go.Proofs.Ybulkbsq
