/- zzs0134abuild. -/
import Derived.Test.YbulkbteModel
namespace Go.Proofs.Ybulkbte
open Go.RowKit Go.WideShapes

/-- The cells of a set object. -/
def ob (j : Nat) (av sv : Value) : List Value :=
  [.string ⟨#[]⟩, .int .i64 j, .int .i64 0, .int .i64 0, .slice none 0 0, av, sv, .bool false, .int .u32 0, .int .u32 0, .int .u32 0, .int .u32 0, .int .i64 0, .slice none 0 0, .nilIface, .int .i8 0, .slice none 0 0, .int .u8 0]

def ptrs (P : Nat → Nat) (n i : Nat) : List Value := (List.range n).map (fun j => if j < i then pt P j else .pointer none)

theorem ptrs_zero (P : Nat → Nat) (n : Nat) : ptrs P n 0 = List.replicate n (.pointer none) := by
  apply List.ext_getElem
  · simp [ptrs]
  · intro i h1 h2; simp [ptrs]
theorem ptrs_set (P : Nat → Nat) (n i : Nat) : (ptrs P n i).set i (pt P i) = ptrs P n (i + 1) := by
  apply List.ext_getElem
  · simp [ptrs]
  · intro j h1 h2
    rw [List.getElem_set]
    simp only [ptrs, List.getElem_map, List.getElem_range]
    by_cases h : i = j
    · subst h; simp
    · rw [if_neg h]
      by_cases h3 : j < i
      · rw [if_pos h3, if_pos (by omega)]
      · rw [if_neg h3, if_neg (by omega)]
theorem ptrs_len (P : Nat → Nat) (n i : Nat) : (ptrs P n i).length = n := by simp [ptrs]
theorem ptrs_at (P : Nat → Nat) (n i : Nat) (hi : i < n) : (ptrs P n n)[i]'(by rw [ptrs_len]; exact hi) = pt P i := by simp [ptrs, hi]

theorem step_append_row {P : Program} {ops : Array Oper} {o : Oper} {a : Act} {w : World} {K : Act → World → Prop} {Q : Exit → Act → World → Prop} {E : Prop}
    (hg : o.guard = none) (s x : Operand) (t : TypeId) (hop : o.op = Op.call { callee := Callee.builtin Builtin.append, args := #[s, x], argTypes := #[t, t] })
    (base : Nat) (e : TypeId) (i : TypeInfo) (z : Value) (bytes : Nat) (ht : P.underlying t = some (.slice e)) (hi : P.info? e = some i) (hz : i.zero = some z)
    (hsize : i.size = 1) (hby : i.bytes = bytes) (hzs : z.cells.size = 1)
    (v : Value) (n : Nat) (xs : List Value) (hs : a.eval s = v) (hown : w.ownsRow base e 1 v n xs)
    (ad : Addr) (u : Value) (hx : a.eval x = .slice (some ad) 1 1) (hc : w.cell? ad = some u) (h1 : u.oneCell' = true)
    (h63 : n + 1 ≤ maxLen) (hbytes : (n + 1) * bytes ≤ 140737488355328) (hbase : base ≤ w.heap.size)
    (hK : ∀ g c w', w'.ownsRow base e 1 (.slice (some ⟨g, 0, none⟩) (n + 1) c) (n + 1) (xs ++ [u]) → w.grownBy w' v.ownBlock → K (a.put o.dst (.slice (some ⟨g, 0, none⟩) (n + 1) c)) w') :
    if Region.wanted o (yielded ops a.tmps) = true then Oper.wp P o a w K Q else E := by
  have hw : Region.wanted o (yielded ops a.tmps) = true := by simp [Region.wanted, hg]
  rw [if_pos hw]
  refine wp_append_own w s x t hop base e i z 1 bytes ht hi hz hsize hby hzs (by decide) v n xs hs hown ad 1 1 [u] hx rfl ?_ (by simpa using h1) h63 hbytes hbase ?_
  · intro j q hq
    cases j with
    | zero => simp at hq; subst hq; simpa [Addr.add] using hc
    | succ k => simp at hq
  · intro v' w' ho hgr _
    obtain ⟨g, c, rfl⟩ := own_form ho (by omega)
    exact hK g c w' ho hgr

/-- What the building gives. -/
def BuildPost (n : Nat) (TA Tb : List Int) (A Sb : Nat → List Int) (w : World) (e : Ending) (w' : World) : Prop :=
  ∃ (G : Nat) (P : Nat → Nat) (tav tsv : Value), e = .returned (.tuple #[.slice (some ⟨G, 0, none⟩) n n, .agg #[tav, tsv, .bool false]]) ∧ Below w.heap.size w w' ∧
    Stat w'.heap.size w' n P A (fun i => ixs n (Sb i)) ∧ Row w'.heap.size w' tav (TA.map (Value.int .u32)) ∧ Row w'.heap.size w' tsv ((tops n Tb).map (pt P))

/-- The state when i lists have been built. -/
def L2 (H n : Nat) (A Sb : Nat → List Int) (w : World) (i : Nat) (wr : World) : Prop :=
  Blk wr (w.heap.size + 1) 67 (ptrs (fun j => H + j) n n) ∧ (∀ j, i ≤ j → j < n → Blk wr (H + j) 79 (ob j (.slice none 0 0) (.slice none 0 0))) ∧
  (∀ j, j < i → ∃ av sv, Blk wr (H + j) 79 (ob j av sv) ∧ wr.ownsRow (H + n) 25 1 av (A j).length ((A j).map (Value.int .u32)) ∧ wr.ownsRow (H + n) 67 1 sv (Sb j).length ((ixs n (Sb j)).map (pt (fun j => H + j)))) ∧
  Below w.heap.size w wr ∧ H + n ≤ wr.heap.size ∧ Blk wr w.heap.size 29 [.slice none 0 0, .slice none 0 0, .bool false]

theorem own_mono {base base' e n : Nat} {w : World} {v : Value} {us : List Value} (h : w.ownsRow base e 1 v n us) (hb : base' ≤ base) : w.ownsRow base' e 1 v n us := by
  refine ⟨h.1, ?_⟩
  rcases h.2 with h0 | ⟨g, cap, cur, hv, hg, r⟩
  · exact .inl h0
  · exact .inr ⟨g, cap, cur, hv, Nat.le_trans hb hg, r⟩

theorem own_below {B base e n : Nat} {w w' : World} {v : Value} {us : List Value} (h : w.ownsRow base e 1 v n us) (hb : Below B w w') (hB : w.heap.size ≤ B) : w'.ownsRow base e 1 v n us :=
  ownsRow_of h (fun g hg => hb.block g (Nat.lt_of_lt_of_le (h.lt g hg).2 hB))

theorem L2.keep {H n i : Nat} {A Sb : Nat → List Int} {w wr w2 : World} (h : L2 H n A Sb w i wr) (hb : Below wr.heap.size wr w2) : L2 H n A Sb w i w2 := by
  obtain ⟨h1, h2, h3, h4, h5, h6⟩ := h
  refine ⟨h1.below hb h1.lt, fun j a b => (h2 j a b).below hb (h2 j a b).lt, fun j hj => ?_, h4.trans (hb.mono h4.size), Nat.le_trans h5 hb.size, h6.below hb h6.lt⟩
  obtain ⟨av, sv, a1, a2, a3⟩ := h3 j hj
  exact ⟨av, sv, a1.below hb a1.lt, own_below a2 hb (Nat.le_refl _), own_below a3 hb (Nat.le_refl _)⟩

theorem L2.next {H n i : Nat} {A Sb : Nat → List Int} {w w2 : World} {av sv : Value} (h : L2 H n A Sb w i w2) (hi : i < n) (hGH : w.heap.size + 1 < H) (ha : w2.ownsRow (H + n) 25 1 av (A i).length ((A i).map (Value.int .u32))) (hs : w2.ownsRow (H + n) 67 1 sv (Sb i).length ((ixs n (Sb i)).map (pt (fun j => H + j)))) :
    L2 H n A Sb w (i + 1) (((w2.setCell ⟨H + i, 5, none⟩ av).setCell ⟨H + i, 6, none⟩ sv).setCell ⟨H + i, 7, none⟩ (.bool false)) := by
  obtain ⟨h1, h2, h3, h4, h5, h6⟩ := h
  have other : ∀ {g t : Nat} {l : List Value}, Blk w2 g t l → g ≠ H + i → Blk (((w2.setCell ⟨H + i, 5, none⟩ av).setCell ⟨H + i, 6, none⟩ sv).setCell ⟨H + i, 7, none⟩ (.bool false)) g t l :=
    fun hb hne => ((hb.other (p := ⟨H + i, 5, none⟩) _ hne).other (p := ⟨H + i, 6, none⟩) _ hne).other (p := ⟨H + i, 7, none⟩) _ hne
  have row : ∀ {e k : Nat} {v : Value} {us : List Value}, w2.ownsRow (H + n) e 1 v k us → (((w2.setCell ⟨H + i, 5, none⟩ av).setCell ⟨H + i, 6, none⟩ sv).setCell ⟨H + i, 7, none⟩ (.bool false)).ownsRow (H + n) e 1 v k us :=
    fun hr => ownsRow_of hr (fun g hg => by
      have := (hr.lt g hg).1
      rw [Below.heap_setCell _ _ _ _ (show g ≠ H + i by omega), Below.heap_setCell _ _ _ _ (show g ≠ H + i by omega), Below.heap_setCell _ _ _ _ (show g ≠ H + i by omega)])
  refine ⟨other h1 (by omega), fun j a b => other (h2 j (by omega) b) (by omega), fun j hj => ?_, ?_, by simpa using h5, other h6 (by omega)⟩
  · by_cases he : j = i
    · subst he
      exact ⟨av, sv, (((h2 j (Nat.le_refl _) hi).set 5 av).set 6 sv).set 7 (.bool false), row ha, row hs⟩
    · obtain ⟨av', sv', a1, a2, a3⟩ := h3 j (by omega)
      exact ⟨av', sv', other a1 (by omega), row a2, row a3⟩
  · exact ((h4.setCell (p := ⟨H + i, 5, none⟩) (by show w.heap.size ≤ H + i; omega) _).setCell (p := ⟨H + i, 6, none⟩) (by show w.heap.size ≤ H + i; omega) _).setCell (p := ⟨H + i, 7, none⟩) (by show w.heap.size ≤ H + i; omega) _

theorem L2.drew {H n i : Nat} {A Sb : Nat → List Int} {w w2 : World} (h : L2 H n A Sb w i w2) : L2 H n A Sb w i w2.drew := ⟨h.1, h.2.1, h.2.2.1, h.2.2.2.1.drew, h.2.2.2.2.1, h.2.2.2.2.2⟩

theorem ob_row {base e k C : Nat} {w : World} {v : Value} {us : List Value} (h : w.ownsRow base e 1 v k us) (hC : C = w.heap.size) : Row C w v us := hC ▸ Row.ofOwns h

/-- All lists built, the answer laid in its cell. -/
theorem build_end {H n : Nat} {A Sb : Nat → List Int} {TA Tb : List Int} {w wr : World} {tav tsv : Value} (h : L2 H n A Sb w n wr) (hGH : w.heap.size + 1 < H) (ha : wr.ownsRow (H + n) 25 1 tav TA.length (TA.map (Value.int .u32))) (k : Nat) (hs : wr.ownsRow (H + n) 67 1 tsv k ((tops n Tb).map (pt (fun j => H + j)))) :
    BuildPost n TA Tb A Sb w (.returned (.tuple #[.slice (some ⟨w.heap.size + 1, 0, none⟩) n n, .agg #[tav, tsv, .bool false]])) (((wr.setCell ⟨w.heap.size, 0, none⟩ tav).setCell ⟨w.heap.size, 1, none⟩ tsv).setCell ⟨w.heap.size, 2, none⟩ (.bool false)).drew := by
  obtain ⟨h1, h2, h3, h4, h5, h6⟩ := h
  have other : ∀ {g t : Nat} {l : List Value}, Blk wr g t l → g ≠ w.heap.size → Blk (((wr.setCell ⟨w.heap.size, 0, none⟩ tav).setCell ⟨w.heap.size, 1, none⟩ tsv).setCell ⟨w.heap.size, 2, none⟩ (.bool false)).drew g t l :=
    fun hb hne => (((hb.other (p := ⟨w.heap.size, 0, none⟩) _ hne).other (p := ⟨w.heap.size, 1, none⟩) _ hne).other (p := ⟨w.heap.size, 2, none⟩) _ hne).drew
  have row : ∀ {e k : Nat} {v : Value} {us : List Value}, wr.ownsRow (H + n) e 1 v k us → (((wr.setCell ⟨w.heap.size, 0, none⟩ tav).setCell ⟨w.heap.size, 1, none⟩ tsv).setCell ⟨w.heap.size, 2, none⟩ (.bool false)).drew.ownsRow (H + n) e 1 v k us :=
    fun hr => ownsRow_of (w' := (((wr.setCell ⟨w.heap.size, 0, none⟩ tav).setCell ⟨w.heap.size, 1, none⟩ tsv).setCell ⟨w.heap.size, 2, none⟩ (.bool false)).drew) hr (fun g hg => by
      have := (hr.lt g hg).1
      show (((wr.setCell ⟨w.heap.size, 0, none⟩ tav).setCell ⟨w.heap.size, 1, none⟩ tsv).setCell ⟨w.heap.size, 2, none⟩ (.bool false)).heap[g]? = _
      rw [Below.heap_setCell _ _ _ _ (show g ≠ w.heap.size by omega), Below.heap_setCell _ _ _ _ (show g ≠ w.heap.size by omega), Below.heap_setCell _ _ _ _ (show g ≠ w.heap.size by omega)])
  refine ⟨w.heap.size + 1, fun j => H + j, tav, tsv, rfl, ?_, ?_, Row.ofOwns (row ha), Row.ofOwns (row hs)⟩
  · exact (((h4.setCell (p := ⟨w.heap.size, 0, none⟩) (Nat.le_refl _) _).setCell (p := ⟨w.heap.size, 1, none⟩) (Nat.le_refl _) _).setCell (p := ⟨w.heap.size, 2, none⟩) (Nat.le_refl _) _).drew
  · intro i hi
    obtain ⟨av, sv, a1, a2, a3⟩ := h3 i hi
    have b1 := other a1 (by omega)
    exact ⟨b1.lt, b1.cell (i := 1) (by simp [ob]), av, sv, b1.cell (i := 5) (by simp [ob]), b1.cell (i := 6) (by simp [ob]), Row.ofOwns (row a2), Row.ofOwns (row a3)⟩

/-- While one list is being built: it stands at block wr.heap.size. -/
def Inn (H : Nat) (wr : World) (av : Value) (Ai : List Int) (Ss : List Nat) (j : Nat) (sv : Value) (wj : World) : Prop :=
  Blk wj wr.heap.size 29 [av, sv, .bool false] ∧ wj.ownsRow (wr.heap.size + 1) 25 1 av Ai.length (Ai.map (Value.int .u32)) ∧ wj.ownsRow (wr.heap.size + 1) 67 1 sv j ((Ss.take j).map (pt (fun j => H + j))) ∧ Below wr.heap.size wr wj

theorem Inn.first {H : Nat} {wr w3 : World} {av : Value} {Ai : List Int} {Ss : List Nat} (hb : Blk w3 wr.heap.size 29 [.slice none 0 0, .slice none 0 0, .bool false]) (ho : w3.ownsRow (wr.heap.size + 1) 25 1 av Ai.length (Ai.map (Value.int .u32))) (hB : Below wr.heap.size wr w3) :
    Inn H wr av Ai Ss 0 (.slice none 0 0) (w3.setCell ⟨wr.heap.size, 0, none⟩ av) :=
  ⟨hb.set 0 av, ownsRow_of ho (fun g hg => Below.heap_setCell _ _ _ _ (by have := (ho.lt g hg).1; show g ≠ wr.heap.size; omega)), World.ownsRow_nil _ _ _ _, hB.setCell (p := ⟨wr.heap.size, 0, none⟩) (Nat.le_refl _) _⟩

theorem Inn.step {H : Nat} {wr wj W w5 : World} {av sv sv' : Value} {Ai : List Int} {Ss : List Nat} {j m : Nat} (h : Inn H wr av Ai Ss j sv wj) (hg : W.grownBy w5 sv.ownBlock)
    (ho : w5.ownsRow (wr.heap.size + 1) 67 1 sv' (j + 1) ((Ss.take j).map (pt (fun j => H + j)) ++ [pt (fun j => H + j) m])) (hm : Ss[j]? = some m) (hW : Below wj.heap.size wj W) :
    Blk w5 wr.heap.size 29 [av, sv, .bool false] ∧ Inn H wr av Ai Ss (j + 1) sv' (w5.setCell ⟨wr.heap.size, 1, none⟩ sv') := by
  obtain ⟨h1, h2, h3, h4⟩ := h
  obtain ⟨hj, hm⟩ := List.getElem?_eq_some_iff.1 hm
  have hblk : ∀ k, k < wj.heap.size → some k ≠ sv.ownBlock → w5.heap[k]? = wj.heap[k]? := fun k hk hne => (hg.block k (Nat.lt_of_lt_of_le hk hW.size) hne).trans (hW.block k hk)
  have hL : Blk w5 wr.heap.size 29 [av, sv, .bool false] := by
    unfold Blk
    rw [hblk wr.heap.size h1.lt (fun he => by have := (h3.lt _ he.symm).1; omega)]
    exact h1
  refine ⟨hL, hL.set 1 sv', ?_, ?_, ?_⟩
  · refine ownsRow_of h2 (fun g hgb => ?_)
    have hlt := h2.lt g hgb
    rw [Below.heap_setCell _ _ _ _ (show g ≠ wr.heap.size by omega)]
    refine hblk g hlt.2 (fun he => ?_)
    obtain ⟨c1, e1⟩ := ownsRow_block h2 hgb
    obtain ⟨c2, e2⟩ := ownsRow_block h3 he.symm
    rw [e1] at e2
    simp at e2
  · rw [List.take_succ_eq_append_getElem hj, List.map_append, hm]
    exact ownsRow_of ho (fun g hgb => Below.heap_setCell _ _ _ _ (by have := (ho.lt g hgb).1; show g ≠ wr.heap.size; omega))
  · refine Below.setCell (B := wr.heap.size) ?_ (p := ⟨wr.heap.size, 1, none⟩) (Nat.le_refl _) _
    refine ⟨hg.os.trans (hW.os.trans h4.os), hg.tape.trans (hW.tape.trans h4.tape), hg.output.trans (hW.output.trans h4.output), Nat.le_trans h4.size (Nat.le_trans hW.size hg.size), fun k hk => ?_⟩
    rw [hblk k (Nat.lt_of_lt_of_le hk h4.size) (fun he => by have := (h3.lt _ he.symm).1; omega)]
    exact h4.block k hk

set_option maxHeartbeats 4000000 in
set_option maxRecDepth 100000 in
theorem build_walk (C n : Nat) (A Sb : Nat → List Int) (TA Tb : List Int) (sv tav tsv : Value) (w : World) (hC : C ≤ w.heap.size) (hn : n ≤ 256)
    (hin : InSets C w sv n A Sb) (hra : Row C w tav (TA.map (Value.int .u32))) (hrs : Row C w tsv (Tb.map (Value.int .u8)))
    (hA : ∀ i, i < n → (A i).length ≤ 256) (hSb : ∀ i, i < n → (Sb i).length ≤ 256) (hb8 : ∀ i, i < n → ∀ b ∈ Sb i, 0 ≤ b ∧ b ≤ 255) (hTA : TA.length ≤ 256) (hTb : Tb.length ≤ 256) (ht8 : ∀ b ∈ Tb, 0 ≤ b ∧ b ≤ 255) :
    Calls Yba.prog 8 #[sv, tav, tsv] w (BuildPost n TA Tb A Sb w) := by
  obtain ⟨so, sc, rfl, -⟩ := id hin
  obtain ⟨ta, tc, rfl, -⟩ := id hra
  obtain ⟨ts, tsc, rfl, -⟩ := id hrs
  simp only [List.length_map] at *
  have HIN := hide hin
  have HRA := hide hra
  have HRS := hide hrs
  have HA := hide hA
  have HSB := hide hSb
  have HB8 := hide hb8
  have HT8 := hide ht8
  clear hin hra hrs hA hSb hb8 ht8
  obtain ⟨i0, hi, hz0, hz1, hz2⟩ := info_parts info67
  go_enter Yba.func8, Yba.ntmps8
  go_wp2_with (at_make; refine wpList_make_full _ rfl (.tmp 20) (.tmp 20) 27 rfl w.heap.size 67 i0 (.pointer none) 1 Yba.underlying27 hi hz0 hz1 .i64 .i64 _ _ n rfl rfl (by omega) (by omega) (by rw [hz2]; omega) (by unfold maxLen; omega) (by simp) ?_; intro w1 hown hgrow; have HB1 := hide (((Below.refl w.heap.size w).alloc (Nat.le_refl _) _).grown hgrow (by simp) (fun k hk => by cases hk)); have HW1 := hide (Blk.ofOwns (by simpa using hown)); have HR1 := hide ((Blk.new w 29 [.slice none 0 0, .slice none 0 0, .bool false]).below ((Below.refl (w.heap.size + 1) _).grown hgrow (by simp) (fun k hk => by cases hk)) (by omega)); clear hown hgrow)
  obtain ⟨H, hH⟩ : ∃ H, H = w1.heap.size := ⟨_, rfl⟩
  have hGH : w.heap.size + 1 < H := hH ▸ HW1.out.lt
  have hmr := made_rep (.pointer none) rfl n
  rw [Nat.mul_one] at hmr
  rw [hmr, ← ptrs_zero (fun j => H + j)] at HW1
  clear hmr
  have HHH := hide hH
  clear hH
  go_loopw [10] (fun iv wr => ∃ i : Nat, i ≤ n ∧ iv = .int .i64 i ∧ Hid (wr.heap.size = H + i) ∧ Blk wr (w.heap.size + 1) 67 (ptrs (fun j => H + j) n i) ∧ (∀ j, j < i → Blk wr (H + j) 79 (ob j (.slice none 0 0) (.slice none 0 0))) ∧ Below w.heap.size w wr ∧ Blk wr w.heap.size 29 [.slice none 0 0, .slice none 0 0, .bool false]) (fun iv _ => n - (intOf iv).toNat)
  case atStart => exact ⟨0, Nat.zero_le _, rfl, hide (HHH.out.symm), HW1.out, fun j h => absurd h (Nat.not_lt_zero _), HB1.out, HR1.out⟩
  case round =>
    obtain ⟨i, hi1, rfl, hsz, hG, hob, hB, hR⟩ := hrel
    clear HW1 HB1 HR1
    have hGlt := hG.lt
    have hws := hB.size
    by_cases hlt : i < n
    · obtain ⟨cv, hcv⟩ : ∃ cv, wr.cell? ⟨w.heap.size + 1, i, none⟩ = some cv := ⟨_, hG.cell (i := i) (by rw [ptrs_len]; exact hlt)⟩
      have hfv := hG.frozen i
      have hiz : (i : Int) < (n : Int) := by omega
      have hi0z : (0 : Int) ≤ (i : Int) := by omega
      have HGG := hide hG
      have HOB := hide hob
      have HBB := hide hB
      have HRR := hide hR
      clear hG hob hB hR
      go_wp2_with fail
      go_roundw
      case rel =>
        have hs := hsz.out
        refine ⟨i + 1, by omega, by go_num, hide (by simp [hs]; omega), ?_, ?_, ?_, ?_⟩
        · rw [← ptrs_set]
          have h1 := (HGG.out.set i (pt (fun j => H + j) i)).alloc (.cells (ob i (.slice none 0 0) (.slice none 0 0)).toArray 79)
          simp only [pt, ← hs] at h1 ⊢
          exact h1
        · intro j hj
          by_cases he : j = i
          · subst he
            have h1 := Blk.new (wr.setCell ⟨w.heap.size + 1, j, none⟩ (pt (fun j => H + j) j)) 79 (ob j (.slice none 0 0) (.slice none 0 0))
            rw [show (wr.setCell ⟨w.heap.size + 1, j, none⟩ (pt (fun j => H + j) j)).heap.size = wr.heap.size by simp] at h1
            simp only [pt, ← hs] at h1 ⊢
            exact h1
          · have h1 := ((HOB.out j (by omega)).other (p := ⟨w.heap.size + 1, i, none⟩) (pt (fun j => H + j) i) (by show H + j ≠ w.heap.size + 1; omega)).alloc (.cells (ob i (.slice none 0 0) (.slice none 0 0)).toArray 79)
            simp only [pt, ← hs] at h1
            exact h1
        · exact (HBB.out.setCell (p := ⟨w.heap.size + 1, i, none⟩) (by show w.heap.size ≤ w.heap.size + 1; omega) _).alloc (by simpa using hws) _
        · exact (HRR.out.other (p := ⟨w.heap.size + 1, i, none⟩) _ (by show w.heap.size ≠ w.heap.size + 1; omega)).alloc _
      case measure => simp [intOf]; omega
    · obtain rfl : n = i := by omega
      have hii : ¬ ((n : Int) < (n : Int)) := by omega
      have HL0 : Hid (L2 H n A Sb w 0 wr) := hide ⟨hG, fun j _ h => hob j h, fun j h => absurd h (Nat.not_lt_zero _), hB, Nat.le_of_eq hsz.out.symm, hR⟩
      clear hG hob hB hR hsz hGlt hws
      go_wp2_with fail
      go_loopw [11] (fun iv wr => ∃ i : Nat, i ≤ n ∧ iv = .int .i64 i ∧ L2 H n A Sb w i wr) (fun iv _ => n - (intOf iv).toNat)
      case atStart => exact ⟨0, Nat.zero_le _, rfl, HL0.out⟩
      case round =>
        rename World => wo
        obtain ⟨i, hi2, rfl, hL⟩ := hrel
        clear HL0
        by_cases hlt : i < n
        · have hB := hL.2.2.2.1
          have hws := hB.size
          obtain ⟨b, off, hso, hbC, aa, ac, ba, bc, hc0, hc1, hrA, hrS⟩ := (HIN.out.below (hB.mono hC)).at hlt
          cases hso
          have hAl := HA.out i hlt
          have hSl := HSB.out i hlt
          have hiz : (i : Int) < (n : Int) := by omega
          have hi0z : (0 : Int) ≤ (i : Int) := by omega
          have hbL : b ≠ wo.heap.size := by omega
          have hbw : b < wo.heap.size := by omega
          have hbe := (Below.refl wo.heap.size wo).alloc (Nat.le_refl _) (.cells #[.slice none 0 0, .slice none 0 0, .bool false] 29)
          have e0 := (hbe.cell (p := ⟨b, off + i * 2, none⟩) hbw).trans hc0
          have e1 := (hbe.cell (p := ⟨b, off + i * 2 + 1, none⟩) hbw).trans hc1
          have HRA2 := hide (hrA.below (hbe.mono (by omega)))
          have HLB := hide (Blk.new wo 29 [.slice none 0 0, .slice none 0 0, .bool false])
          have HRSW := hide hrS
          have HL := hide hL
          have HBE := hide hbe
          obtain ⟨i1, hi1', hy0, hy1, hy2⟩ := info_parts info25
          clear hL hB hrA hrS hbe
          go_wp2_with (at_builtin; refine append_row rfl (.const (.slice none 0 0)) (.tmp 42) 23 rfl (wo.heap.size + 1) 25 i1 (.int .u32 0) 4 Yba.underlying23 hi1' hy0 hy1 hy2 rfl (.slice none 0 0) 0 [] rfl (World.ownsRow_nil _ _ _ _) C (.slice aa (A i).length ac) ((A i).map (Value.int .u32)) rfl (by exact HRA2.out) (by simp [Value.oneCell']) (by unfold maxLen; simp; omega) (by simp; omega) (by simp) ?_; intro oa3 oc3 w3 hown3 hgrow3; simp only [List.length_map, Nat.zero_add, List.nil_append] at hown3 ⊢; have hb3 := HBE.out.grown hgrow3 (by simp) (fun k hk => by cases hk); have hlb3 : Blk w3 wo.heap.size 29 [.slice none 0 0, .slice none 0 0, .bool false] := HLB.out.below ((Below.refl (wo.heap.size + 1) _).grown hgrow3 (by simp) (fun k hk => by cases hk)) (by omega); have d1 : w3.cell? ⟨b, off + i * 2 + 1, none⟩ = some (.slice ba (Sb i).length bc) := (hb3.cell (p := ⟨b, off + i * 2 + 1, none⟩) (by show b < wo.heap.size; omega)).trans hc1; have d0 : w3.cell? ⟨wo.heap.size, 0, none⟩ = some (.slice none 0 0) := hlb3.cell (i := 0) (by simp); have f0 := hlb3.frozen 0; have HO3 := hide hown3; have HB3 := hide hb3; have HLB3 := hide hlb3; clear hown3 hgrow3 hb3 hlb3)
          have HI0 : Hid (Inn H wo (.slice oa3 (A i).length oc3) (A i) (ixs n (Sb i)) 0 (.slice none 0 0) (w3.setCell ⟨wo.heap.size, 0, none⟩ (.slice oa3 (A i).length oc3))) := hide (Inn.first HLB3.out HO3.out HB3.out)
          clear HLB3 HO3 HB3 d0 d1 f0 e0 e1 hc0 hc1 HRA2 HLB HBE
          go_loopw [51] (fun jv wj => ∃ (j : Nat) (sv : Value), j ≤ (Sb i).length ∧ jv = .int .i64 j ∧ Inn H wo (.slice oa3 (A i).length oc3) (A i) (ixs n (Sb i)) j sv wj) (fun jv _ => (Sb i).length - (intOf jv).toNat)
          case atStart => exact ⟨0, _, Nat.zero_le _, rfl, HI0.out⟩
          case round =>
            obtain ⟨j, sv, hj, rfl, hI⟩ := hrel
            clear HI0
            have hBj := hI.2.2.2
            have hwj := hBj.size
            by_cases hltj : j < (Sb i).length
            · obtain ⟨b2, off2, c2, hv, hb2, hc⟩ := (HRSW.out.below (hBj.mono (Nat.le_trans hC hws))).at (by simpa using Nat.lt_of_le_of_lt (Nat.zero_le _) hltj)
              simp only [List.length_map, Value.slice.injEq] at hv
              obtain ⟨rfl, _, rfl⟩ := hv
              have hcj := hc j (by simpa using hltj)
              simp only [List.getElem_map] at hcj
              obtain ⟨y, hy⟩ : ∃ y : Int, y = (Sb i)[j] := ⟨_, rfl⟩
              rw [← hy] at hcj
              have hy8 := HB8.out i hlt _ (List.getElem_mem hltj)
              rw [← hy] at hy8
              obtain ⟨q, rfl⟩ : ∃ q : Nat, y = q := ⟨y.toNat, by omega⟩
              have HY := hide hy
              clear hy
              have hq : q % n < n := Nat.mod_lt _ (by omega)
              have hG := (HL.out.1).below hBj (HL.out.1).lt
              have hcm : wr.cell? ⟨w.heap.size + 1, q % n, none⟩ = some (.pointer (some ⟨H + q % n, 0, none⟩)) := by
                rw [hG.cell (i := q % n) (by rw [ptrs_len]; exact hq), ptrs_at _ _ _ hq]
                rfl
              have hj1 : (j : Int) < ((Sb i).length : Int) := by omega
              have hnp : (0 : Int) < (n : Int) := by omega
              have hqz : ((q : Int) % (n : Int)) = ((q % n : Nat) : Int) := by simp
              have HIX : Hid ((ixs n (Sb i))[j]? = some (q % n)) := hide (by simp [ixs, List.getElem?_eq_getElem hltj, ← HY.out])
              have hn0 : ¬ (n = 0) := by omega
              have hwq : IntKind.i64.wrap (q : Int) = (q : Int) := IntWalk.i64_in _ (by omega)
              have htm : (q : Int).tmod (n : Int) = ((q % n : Nat) : Int) := by rw [Int.tmod_eq_emod_of_nonneg (by omega)]; simp
              generalize hqm : q % n = m at *
              have hmz : (m : Int) < (n : Int) := by omega
              have hI1 := hI.1
              have d1 : wr.cell? ⟨wo.heap.size, 1, none⟩ = some sv := hI1.cell (i := 1) (by simp)
              have f1 := hI1.frozen 1
              have HI := hide hI
              have HG := hide hG
              have hLlt := hI1.lt
              clear hqm hI hc hI1 hG hBj
              go_wp2_with fail
              go_region_law (refine step_append_row rfl (.tmp 56) (.tmp 64) 27 rfl (wo.heap.size + 1) 67 i0 (.pointer none) 8 Yba.underlying27 hi hz0 hz1 hz2 rfl sv j (((ixs n (Sb i)).take j).map (pt (fun j => H + j))) rfl (by exact (World.ownsRow.alloc HI.out.2.2.1 _)) ⟨wr.heap.size, 0, none⟩ (.pointer (some ⟨H + m, 0, none⟩)) rfl (by simp) rfl (by unfold maxLen; omega) (by omega) (by simp; omega) ?_; intro g5 c5 w5 ho5 hg5; obtain ⟨e1, e2⟩ := Inn.step (m := m) HI.out hg5 ho5 HIX.out ⟨rfl, rfl, rfl, by simp, fun k hk => Below.heap_alloc _ _ k hk⟩; have d5 : w5.cell? ⟨wo.heap.size, 1, none⟩ = some sv := e1.cell (i := 1) (by simp); have f5 := e1.frozen 1; have E2 := hide e2; clear ho5 hg5 e1 e2)
              all_goals go_wp2_with fail
              all_goals go_roundw
              all_goals first | exact ⟨j + 1, _, by omega, by go_num, E2.out⟩ | (simp [intOf]; omega)
            · obtain rfl : j = (Sb i).length := by omega
              have hjj : ¬ (((Sb i).length : Int) < ((Sb i).length : Int)) := by omega
              obtain ⟨sva, svc, rfl⟩ := own_slice hI.2.2.1
              have hL2 := HL.out.keep hBj
              have hpi := hL2.2.1 i (Nat.le_refl _) hlt
              have hG := hL2.1
              have hcm : wr.cell? ⟨w.heap.size + 1, i, none⟩ = some (.pointer (some ⟨H + i, 0, none⟩)) := by
                rw [hG.cell (i := i) (by rw [ptrs_len]; exact hlt), ptrs_at _ _ _ hlt]
                rfl
              have p5 : wr.cell? ⟨H + i, 5, none⟩ = some (.slice none 0 0) := hpi.cell (i := 5) (by simp [ob])
              have p6 : wr.cell? ⟨H + i, 6, none⟩ = some (.slice none 0 0) := hpi.cell (i := 6) (by simp [ob])
              have p7 : wr.cell? ⟨H + i, 7, none⟩ = some (.bool false) := hpi.cell (i := 7) (by simp [ob])
              have g5 := hpi.frozen 5
              have g6 := hpi.frozen 6
              have g7 := hpi.frozen 7
              have q0 : wr.cell? ⟨wo.heap.size, 0, none⟩ = some (.slice oa3 (A i).length oc3) := hI.1.cell (i := 0) (by simp)
              have q1 : wr.cell? ⟨wo.heap.size, 1, none⟩ = some (.slice sva (Sb i).length svc) := hI.1.cell (i := 1) (by simp)
              have q2 : wr.cell? ⟨wo.heap.size, 2, none⟩ = some (.bool false) := hI.1.cell (i := 2) (by simp)
              have hHw : H + n ≤ wo.heap.size := HL.out.2.2.2.2.1
              have HNX := hide (hL2.next hlt hGH (own_mono hI.2.1 (by omega)) (by have := hI.2.2.1; rw [List.take_of_length_le (by simp [ixs])] at this; exact own_mono this (by omega)))
              clear hL2 hpi hG hI hBj HL
              go_wp2_with fail
              go_region
              all_goals go_wp2_with fail
              all_goals go_roundw
              all_goals first | exact ⟨i + 1, by omega, by go_num, HNX.out.drew⟩ | (simp [intOf]; omega)
        · obtain rfl : n = i := by omega
          have hB := hL.2.2.2.1
          have hws := hB.size
          have hbe := (Below.refl wo.heap.size wo).alloc (Nat.le_refl _) (.cells #[.slice none 0 0, .slice none 0 0, .bool false] 29)
          have HRA2 := hide ((HRA.out.below (hB.mono hC)).below (hbe.mono (by omega)))
          have HLB := hide (Blk.new wo 29 [.slice none 0 0, .slice none 0 0, .bool false])
          have HL := hide hL
          have HBE := hide hbe
          have HHn : H + n ≤ wo.heap.size := hL.2.2.2.2.1
          have HB := hide hB
          obtain ⟨i1, hi1', hy0, hy1, hy2⟩ := info_parts info25
          clear hL hB hbe
          by_cases hn0 : n = 0
          · have hn0z : ¬ ((0 : Int) < (n : Int)) := by omega
            have HN0 := hide hn0
            clear hn0
            go_wp2_with (at_builtin; refine append_row rfl (.const (.slice none 0 0)) (.tmp 75) 23 rfl (wo.heap.size + 1) 25 i1 (.int .u32 0) 4 Yba.underlying23 hi1' hy0 hy1 hy2 rfl (.slice none 0 0) 0 [] rfl (World.ownsRow_nil _ _ _ _) C (.slice ta TA.length tc) (TA.map (Value.int .u32)) rfl (by exact HRA2.out) (by simp [Value.oneCell']) (by unfold maxLen; simp; omega) (by simp; omega) (by simp) ?_; intro oa3 oc3 w3 hown3 hgrow3; simp only [List.length_map, Nat.zero_add, List.nil_append] at hown3 ⊢; have hb3 := HBE.out.grown hgrow3 (by simp) (fun k hk => by cases hk); have hlb3 : Blk w3 wo.heap.size 29 [.slice none 0 0, .slice none 0 0, .bool false] := HLB.out.below ((Below.refl (wo.heap.size + 1) _).grown hgrow3 (by simp) (fun k hk => by cases hk)) (by omega); have d0 : w3.cell? ⟨wo.heap.size, 0, none⟩ = some (.slice none 0 0) := hlb3.cell (i := 0) (by simp); have f0 := hlb3.frozen 0; have HO3 := hide hown3; have HB3 := hide hb3; have HLB3 := hide hlb3; clear hown3 hgrow3 hb3 hlb3)
            have HI : Hid (Inn H wo (.slice oa3 TA.length oc3) TA (tops n Tb) 0 (.slice none 0 0) (w3.setCell ⟨wo.heap.size, 0, none⟩ (.slice oa3 TA.length oc3))) := hide (Inn.first HLB3.out HO3.out HB3.out)
            clear HLB3 HO3 HB3 d0 f0
            generalize (w3.setCell ⟨wo.heap.size, 0, none⟩ (.slice oa3 TA.length oc3)) = Wf at *
            obtain ⟨hI1, hI2, hI3, hBj⟩ := HI.out
            have hL2 := HL.out.keep hBj
            have hR := hL2.2.2.2.2.2
            have r0 : Wf.cell? ⟨w.heap.size, 0, none⟩ = some (.slice none 0 0) := hR.cell (i := 0) (by simp)
            have r1 : Wf.cell? ⟨w.heap.size, 1, none⟩ = some (.slice none 0 0) := hR.cell (i := 1) (by simp)
            have r2 : Wf.cell? ⟨w.heap.size, 2, none⟩ = some (.bool false) := hR.cell (i := 2) (by simp)
            have g0 := hR.frozen 0
            have g1 := hR.frozen 1
            have g2 := hR.frozen 2
            have q0 : Wf.cell? ⟨wo.heap.size, 0, none⟩ = some (.slice oa3 TA.length oc3) := hI1.cell (i := 0) (by simp)
            have q1 : Wf.cell? ⟨wo.heap.size, 1, none⟩ = some (.slice none 0 0) := hI1.cell (i := 1) (by simp)
            have q2 : Wf.cell? ⟨wo.heap.size, 2, none⟩ = some (.bool false) := hI1.cell (i := 2) (by simp)
            have HEND := hide (build_end (Tb := Tb) hL2 hGH (own_mono hI2 (by omega)) _ (by have h := own_mono (base' := H + n) hI3 (by omega); rw [List.take_of_length_le (by simp [tops, HN0.out])] at h; exact h))
            clear hL2 hR hI1 hI2 hI3 hBj HI HL
            go_region
            all_goals go_wp2_with fail
            all_goals refine bodyPost_ret (v := .tuple #[.slice (some ⟨w.heap.size + 1, 0, none⟩) n n, .agg #[.slice oa3 TA.length oc3, .slice none 0 0, .bool false]]) (by simp [results, Yba.results8, go_sem, r0, r1, r2]) rfl ?_
            all_goals exact HEND.out
          · have hnp : (0 : Int) < (n : Int) := by omega
            have HT : Hid (tops n Tb = ixs n Tb) := hide (if_neg hn0)
            go_wp2_with (at_builtin; refine append_row rfl (.const (.slice none 0 0)) (.tmp 75) 23 rfl (wo.heap.size + 1) 25 i1 (.int .u32 0) 4 Yba.underlying23 hi1' hy0 hy1 hy2 rfl (.slice none 0 0) 0 [] rfl (World.ownsRow_nil _ _ _ _) C (.slice ta TA.length tc) (TA.map (Value.int .u32)) rfl (by exact HRA2.out) (by simp [Value.oneCell']) (by unfold maxLen; simp; omega) (by simp; omega) (by simp) ?_; intro oa3 oc3 w3 hown3 hgrow3; simp only [List.length_map, Nat.zero_add, List.nil_append] at hown3 ⊢; have hb3 := HBE.out.grown hgrow3 (by simp) (fun k hk => by cases hk); have hlb3 : Blk w3 wo.heap.size 29 [.slice none 0 0, .slice none 0 0, .bool false] := HLB.out.below ((Below.refl (wo.heap.size + 1) _).grown hgrow3 (by simp) (fun k hk => by cases hk)) (by omega); have d0 : w3.cell? ⟨wo.heap.size, 0, none⟩ = some (.slice none 0 0) := hlb3.cell (i := 0) (by simp); have f0 := hlb3.frozen 0; have HO3 := hide hown3; have HB3 := hide hb3; have HLB3 := hide hlb3; clear hown3 hgrow3 hb3 hlb3)
            have HI0 : Hid (Inn H wo (.slice oa3 TA.length oc3) TA (ixs n Tb) 0 (.slice none 0 0) (w3.setCell ⟨wo.heap.size, 0, none⟩ (.slice oa3 TA.length oc3))) := hide (Inn.first HLB3.out HO3.out HB3.out)
            clear HLB3 HO3 HB3 d0 f0
            simp only [show decide (0 < n) = true from decide_eq_true (by omega)]
            go_loopw [82] (fun jv wj => ∃ (j : Nat) (sv : Value), j ≤ Tb.length ∧ jv = .int .i64 j ∧ Inn H wo (.slice oa3 TA.length oc3) TA (ixs n Tb) j sv wj) (fun jv _ => Tb.length - (intOf jv).toNat)
            case atStart => exact ⟨0, _, Nat.zero_le _, rfl, HI0.out⟩
            case round =>
              obtain ⟨j, sv, hj, rfl, hI⟩ := hrel
              clear HI0
              have hBj := hI.2.2.2
              have hwj := hBj.size
              by_cases hltj : j < Tb.length
              · obtain ⟨b2, off2, c2, hv, hb2, hc⟩ := ((HRS.out.below (HB.out.mono hC)).below (hBj.mono (Nat.le_trans hC hws))).at (by simpa using Nat.lt_of_le_of_lt (Nat.zero_le _) hltj)
                simp only [List.length_map, Value.slice.injEq] at hv
                obtain ⟨rfl, _, rfl⟩ := hv
                have hcj := hc j (by simpa using hltj)
                simp only [List.getElem_map] at hcj
                obtain ⟨y, hy⟩ : ∃ y : Int, y = Tb[j] := ⟨_, rfl⟩
                rw [← hy] at hcj
                have hy8 := HT8.out _ (List.getElem_mem hltj)
                rw [← hy] at hy8
                obtain ⟨q, rfl⟩ : ∃ q : Nat, y = q := ⟨y.toNat, by omega⟩
                have HY := hide hy
                clear hy
                have hq : q % n < n := Nat.mod_lt _ (by omega)
                have hG := (HL.out.1).below hBj (HL.out.1).lt
                have hcm : wr.cell? ⟨w.heap.size + 1, q % n, none⟩ = some (.pointer (some ⟨H + q % n, 0, none⟩)) := by
                  rw [hG.cell (i := q % n) (by rw [ptrs_len]; exact hq), ptrs_at _ _ _ hq]
                  rfl
                have hj1 : (j : Int) < (Tb.length : Int) := by omega
                have hnp : (0 : Int) < (n : Int) := by omega
                have hqz : ((q : Int) % (n : Int)) = ((q % n : Nat) : Int) := by simp
                have HIX : Hid ((ixs n Tb)[j]? = some (q % n)) := hide (by simp [ixs, List.getElem?_eq_getElem hltj, ← HY.out])
                have hn0 : ¬ (n = 0) := by omega
                have hwq : IntKind.i64.wrap (q : Int) = (q : Int) := IntWalk.i64_in _ (by omega)
                have htm : (q : Int).tmod (n : Int) = ((q % n : Nat) : Int) := by rw [Int.tmod_eq_emod_of_nonneg (by omega)]; simp
                generalize hqm : q % n = m at *
                have hmz : (m : Int) < (n : Int) := by omega
                have hI1 := hI.1
                have d1 : wr.cell? ⟨wo.heap.size, 1, none⟩ = some sv := hI1.cell (i := 1) (by simp)
                have f1 := hI1.frozen 1
                have HI := hide hI
                have HG := hide hG
                have hLlt := hI1.lt
                clear hqm hI hc hI1 hG hBj
                go_wp2_with fail
                go_region_law (refine step_append_row rfl (.tmp 87) (.tmp 95) 27 rfl (wo.heap.size + 1) 67 i0 (.pointer none) 8 Yba.underlying27 hi hz0 hz1 hz2 rfl sv j (((ixs n Tb).take j).map (pt (fun j => H + j))) rfl (by exact (World.ownsRow.alloc HI.out.2.2.1 _)) ⟨wr.heap.size, 0, none⟩ (.pointer (some ⟨H + m, 0, none⟩)) rfl (by simp) rfl (by unfold maxLen; omega) (by omega) (by simp; omega) ?_; intro g5 c5 w5 ho5 hg5; obtain ⟨e1, e2⟩ := Inn.step (m := m) HI.out hg5 ho5 HIX.out ⟨rfl, rfl, rfl, by simp, fun k hk => Below.heap_alloc _ _ k hk⟩; have d5 : w5.cell? ⟨wo.heap.size, 1, none⟩ = some sv := e1.cell (i := 1) (by simp); have f5 := e1.frozen 1; have E2 := hide e2; clear ho5 hg5 e1 e2)
                all_goals go_wp2_with fail
                all_goals go_roundw
                all_goals first | exact ⟨j + 1, _, by omega, by go_num, E2.out⟩ | (simp [intOf]; omega)
              · obtain rfl : j = Tb.length := by omega
                have hjj : ¬ ((Tb.length : Int) < (Tb.length : Int)) := by omega
                obtain ⟨sva, svc, rfl⟩ := own_slice hI.2.2.1
                have HI := hide hI
                clear hI hBj
                obtain ⟨hI1, hI2, hI3, hBj⟩ := HI.out
                have hL2 := HL.out.keep hBj
                have hR := hL2.2.2.2.2.2
                have r0 : wr.cell? ⟨w.heap.size, 0, none⟩ = some (.slice none 0 0) := hR.cell (i := 0) (by simp)
                have r1 : wr.cell? ⟨w.heap.size, 1, none⟩ = some (.slice none 0 0) := hR.cell (i := 1) (by simp)
                have r2 : wr.cell? ⟨w.heap.size, 2, none⟩ = some (.bool false) := hR.cell (i := 2) (by simp)
                have g0 := hR.frozen 0
                have g1 := hR.frozen 1
                have g2 := hR.frozen 2
                have q0 : wr.cell? ⟨wo.heap.size, 0, none⟩ = some (.slice oa3 TA.length oc3) := hI1.cell (i := 0) (by simp)
                have q1 : wr.cell? ⟨wo.heap.size, 1, none⟩ = some (.slice sva Tb.length svc) := hI1.cell (i := 1) (by simp)
                have q2 : wr.cell? ⟨wo.heap.size, 2, none⟩ = some (.bool false) := hI1.cell (i := 2) (by simp)
                have HEND := hide (build_end (Tb := Tb) hL2 hGH (own_mono hI2 (by omega)) _ (by have h := own_mono (base' := H + n) hI3 (by omega); rw [List.take_of_length_le (by simp [ixs])] at h; rw [HT.out]; exact h))
                clear hL2 hR hI1 hI2 hI3 hBj HI HL
                go_wp2_with fail
                go_region
                all_goals go_wp2_with fail
                all_goals refine bodyPost_ret (v := .tuple #[.slice (some ⟨w.heap.size + 1, 0, none⟩) n n, .agg #[.slice oa3 TA.length oc3, .slice sva Tb.length svc, .bool false]]) (by simp [results, Yba.results8, go_sem, r0, r1, r2]) rfl ?_
                all_goals exact HEND.out
end Go.Proofs.Ybulkbte
