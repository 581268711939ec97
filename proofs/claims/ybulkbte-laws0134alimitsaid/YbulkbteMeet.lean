/- setSearch.start and setSearch.meet. -/
import Derived.Test.YbulkbteRpA
namespace Go.Proofs.Ybulkbte
open Go.RowKit Go.WideShapes

theorem cells_one (w : World) (v : Value) (e s : Nat) (hs : s = w.heap.size) : ∀ j u, ([v] : List Value)[j]? = some u → (w.alloc (.cells #[v] e)).cell? ((⟨s, 0, none⟩ : Addr).add j) = some u := by
  intro j u hj
  subst hs
  cases j with
  | zero =>
    simp at hj
    subst hj
    rw [add_plain]
    simp
  | succ k => simp at hj

theorem own_form {w : World} {base e n : Nat} {v : Value} {us : List Value} (h : w.ownsRow base e 1 v n us) (hn : 0 < n) : ∃ g cap, v = .slice (some ⟨g, 0, none⟩) n cap := by
  rcases h.2 with ⟨_, h0⟩ | ⟨g, cap, cur, hv, _⟩
  · omega
  · exact ⟨g, cap, hv⟩

theorem set_getD (mk : List Int) (i j : Nat) (r : Int) (hi : i < mk.length) : (mk.set i r).getD j 0 = if j = i then r else mk.getD j 0 := by
  rw [List.getD_eq_getElem?_getD, List.getElem?_set]
  by_cases h : i = j
  · subst h; simp [hi]
  · rw [if_neg h, if_neg (fun e => h e.symm), List.getD_eq_getElem?_getD]

/-- What stands once the row has grown: the field takes it. -/
theorem meet_end {D SS M n i : Nat} {ix : Value} {r : Int} {P : Nat → Nat} {fv v' : Value} {fs : List Nat} {w W2 w3 : World} (hi : i < n) (hin : ¬ i ∈ fs) (hS : SSt w D SS M n ix r P fv fs) (hSM : SS ≠ M) (hSD : SS < D) (hMD : M < D) (hD : D ≤ w.heap.size)
    (q : Nat) (hW : W2 = ((w.drewN q).setCell ⟨M, i, none⟩ (.int .u32 r)).alloc (.cells #[.pointer (some ⟨P i, 0, none⟩)] 67)) (hg : W2.grownBy w3 fv.ownBlock) (ho : w3.ownsRow D 67 1 v' (fs.length + 1) (fs.map (pt P) ++ [pt P i])) :
    Blk w3 SS 40 [ix, .bool false, .int .u32 r, .slice (some ⟨M, 0, none⟩) n n, fv] ∧
    Fr D SS M w (w3.setCell ⟨SS, 4, none⟩ v') ∧ Keep D w (w3.setCell ⟨SS, 4, none⟩ v') ∧ SSt (w3.setCell ⟨SS, 4, none⟩ v') D SS M n ix r P v' (addN fs i) := by
  obtain ⟨mk, hml, hr0, hr1, hmr, hmf, hnd, hfn, hbS, hbM, hown⟩ := hS
  have hSlt := hbS.lt
  have hMlt := hbM.lt
  have hSS2 : Blk W2 SS 40 [ix, .bool false, .int .u32 r, .slice (some ⟨M, 0, none⟩) n n, fv] := by
    rw [hW]; exact Blk.alloc (Blk.other (w := w.drewN q) hbS (p := ⟨M, i, none⟩) _ hSM) _
  have hMM2 : Blk W2 M 25 ((mk.set i r).map (Value.int .u32)) := by
    rw [hW, List.map_set]; exact Blk.alloc (Blk.set (w := w.drewN q) hbM i _) _
  have hne : ∀ k, k < D → some k ≠ fv.ownBlock := fun k hk h => by have := (hown.lt k h.symm).1; omega
  have hW2s : W2.heap.size = w.heap.size + 1 := by rw [hW]; simp
  have hB2 : ∀ k, k < w.heap.size → k ≠ M → W2.heap[k]? = w.heap[k]? := fun k hk hm => by
    rw [hW, Below.heap_alloc _ _ _ (by simpa using hk), Below.heap_setCell _ _ _ _ hm]; rfl
  have hS3 : Blk w3 SS 40 [ix, .bool false, .int .u32 r, .slice (some ⟨M, 0, none⟩) n n, fv] := by
    unfold Blk; rw [hg.block SS (by omega) (hne _ hSD)]; exact hSS2
  have hM3 : Blk w3 M 25 ((mk.set i r).map (Value.int .u32)) := by
    unfold Blk; rw [hg.block M (by omega) (hne _ hMD)]; exact hMM2
  have hadd : addN fs i = fs ++ [i] := by unfold addN; rw [if_neg hin]
  refine ⟨hS3, ?_, ?_, mk.set i r, by simpa using hml, hr0, hr1, ?_, ?_, ?_, ?_, ?_, ?_, ?_⟩
  · have h1 : Fr D SS M w W2 := by
      rw [hW]; exact (((Fr.refl D SS M w).drewN q).setCell (p := ⟨M, i, none⟩) (.inr (.inl rfl)) _).alloc (by simpa using hD) _
    exact (h1.grown hg (by omega) (fun k hk => (hown.lt k hk).1)).setCell (p := ⟨SS, 4, none⟩) (.inl rfl) _
  · intro g cur e hDg he hb
    have hlt := (Array.getElem?_eq_some_iff.1 hb).1
    rw [Below.heap_setCell _ _ _ _ (show g ≠ SS by omega)]
    rw [hg.block g (by omega) (fun h => by
      obtain ⟨c2, h2⟩ := ownsRow_block hown h.symm
      rw [hb] at h2
      simp at h2
      exact he h2.2)]
    rw [hB2 g hlt (by omega)]
    exact hb
  · intro j hj
    rw [set_getD _ _ _ _ (by omega)]
    split
    · exact ⟨hr0, Int.le_refl _⟩
    · exact hmr j hj
  · intro j hj
    rw [set_getD _ _ _ _ (by omega), hadd]
    split
    · rename_i h; subst h; simp
    · rename_i h; rw [hmf j hj]; simp [h]
  · rw [hadd]
    rw [List.nodup_append]
    exact ⟨hnd, by simp, fun a ha b hb => by simp at hb; subst hb; exact fun e => hin (e ▸ ha)⟩
  · intro j hj
    rw [hadd] at hj
    simp at hj
    rcases hj with h | rfl
    · exact hfn j h
    · exact hi
  · exact hS3.set 4 v'
  · exact hM3.other (p := ⟨SS, 4, none⟩) _ (Ne.symm hSM)
  · have := ownsRow_of (w' := w3.setCell ⟨SS, 4, none⟩ v') ho (fun g hg' => Below.heap_setCell _ _ _ _ (by have := (ho.lt g hg').1; show g ≠ SS; omega))
    rw [hadd]
    simpa using this

set_option maxHeartbeats 4000000 in
set_option maxRecDepth 100000 in
theorem meet_walk (D SS M n i : Nat) (ix : Value) (r : Int) (P : Nat → Nat) (fv : Value) (fs : List Nat) (w : World) (hi : i < n) (hn : n ≤ 256)
    (hp : w.cell? ⟨P i, 1, none⟩ = some (.int .i64 i)) (hS : SSt w D SS M n ix r P fv fs) (hSM : SS ≠ M) (hSD : SS < D) (hMD : M < D) (hD : D ≤ w.heap.size) :
    Calls Yba.prog 19 #[.pointer (some ⟨SS, 0, none⟩), .pointer (some ⟨P i, 0, none⟩)] w fun e w' => e = .returned (.tuple #[]) ∧ Fr D SS M w w' ∧ Keep D w w' ∧ ∃ fv', SSt w' D SS M n ix r P fv' (addN fs i) := by
  have HS := hide hS
  obtain ⟨mk, hml, hr0, hr1, hmr, hmf, hnd, hfn, hbS, hbM, hown⟩ := hS
  have hfl := nodup_len hnd hfn
  have c2 : w.cell? ⟨SS, 2, none⟩ = some (.int .u32 r) := hbS.cell (i := 2) (by simp)
  have c3 : w.cell? ⟨SS, 3, none⟩ = some (.slice (some ⟨M, 0, none⟩) n n) := hbS.cell (i := 3) (by simp)
  have c4 : w.cell? ⟨SS, 4, none⟩ = some fv := hbS.cell (i := 4) (by simp)
  have f4 := hbS.frozen 4
  have cm : w.cell? ⟨M, i, none⟩ = some (.int .u32 (mk.getD i 0)) := by
    rw [hbM.cell (i := i) (by simpa [hml] using hi)]
    simp [List.getElem?_eq_getElem (show i < mk.length by omega)]
  have fm := hbM.frozen i
  have hi1 : (i : Int) < (n : Int) := by omega
  have hi0 : (0 : Int) ≤ (i : Int) := by omega
  obtain ⟨m, hm⟩ : ∃ m, m = mk.getD i 0 := ⟨_, rfl⟩
  rw [← hm] at cm
  have HMF := hide (hmf i hi)
  rw [← hm] at HMF
  by_cases hin : i ∈ fs
  · obtain rfl : m = r := HMF.out.2 hin
    have HIN := hide hin
    clear hin hmf hmr hbS hbM hown hnd hfn hml hm
    go_enter Yba.func19, Yba.ntmps19
    go_wp2_with fail
    go_quiet (fail)
    go_wp2_with fail
    go_end0
    refine ⟨rfl, (Fr.refl _ _ _ _).drewN _, fun _ _ _ _ _ h => h, fv, ?_⟩
    have : addN fs i = fs := by unfold addN; rw [if_pos HIN.out]
    rw [this]
    exact HS.out
  · have hmr2 : (m != r) = true := by simpa using fun h => hin (HMF.out.1 h)
    obtain ⟨i0, hi0', hz0, hz1, hz2⟩ := info_parts info67
    have hst := hide hmf
    have hst2 := hide hmr
    have hbS2 : Hid (Blk (w.setCell ⟨M, i, none⟩ (.int .u32 r)) SS 40 [ix, .bool false, .int .u32 r, .slice (some ⟨M, 0, none⟩) n n, fv]) := hide (hbS.other (p := ⟨M, i, none⟩) _ hSM)
    have hbM2 := hide (hbM.set i (.int .u32 r))
    have hown2 : Hid ((w.setCell ⟨M, i, none⟩ (.int .u32 r)).ownsRow D 67 1 fv fs.length (fs.map (pt P))) := hide (ownsRow_of hown (fun g hg => Below.heap_setCell _ _ _ _ (by have := (hown.lt g hg).1; show g ≠ M; omega)))
    clear hmf hmr hbS hbM hown
    have HX := hide (And.intro hnd (And.intro hfn hml))
    have HIN := hide hin
    clear hnd hfn hml hm hin
    go_enter Yba.func19, Yba.ntmps19
    go_wp2_with fail
    go_quiet (fail)
    go_wp2_with fail
    go_region
    all_goals go_wp2_with (at_builtin; refine wpList_append_own _ rfl (.tmp 36) (.tmp 38) 27 rfl D 67 i0 (.pointer none) 1 8 Yba.underlying27 hi0' hz0 hz1 hz2 rfl (by decide) fv fs.length (fs.map (pt P)) rfl (by exact (World.ownsRow.alloc hown2.out _)) ⟨w.heap.size, 0, none⟩ 1 1 [pt P i] rfl rfl (by exact cells_one _ _ _ _ (by simp)) (by simp [pt, Value.oneCell']) (by unfold maxLen; omega) (by omega) (by simp; omega) ?_; intro v' w3 hown3 hgrow3 _; obtain ⟨g3, k3, hv3⟩ := own_form hown3 (by omega); subst hv3; obtain ⟨e1, e2, e3, e4⟩ := meet_end hi HIN.out HS.out hSM hSD hMD hD (nq + 1) rfl hgrow3 hown3; have f5 := e1.frozen 4; have c5 : w3.cell? ⟨SS, 4, none⟩ = some fv := e1.cell (i := 4) (by simp); have E2 := hide e2; have E3 := hide e3; have E4 := hide e4; clear hown3 hgrow3 e1 e2 e3 e4)
    all_goals go_end0
    all_goals exact ⟨rfl, E2.out, E3.out, _, E4.out⟩

theorem blk_setCells : ∀ (l2 : List Value) (w : World) (g : Nat) (t : TypeId) (l1 l : List Value), Blk w g t (l1 ++ l) → l.length = l2.length → Blk (w.setCells g l1.length l2) g t (l1 ++ l2)
  | [], w, g, t, l1, l, h, hl => by
    have : l = [] := List.eq_nil_of_length_eq_zero hl
    rw [this] at h
    exact h
  | v :: r, w, g, t, l1, l, h, hl => by
    cases l with
    | nil => simp at hl
    | cons a b =>
      have h1 := h.set l1.length v
      rw [List.set_append_right _ _ (Nat.le_refl _), Nat.sub_self, List.set_cons_zero] at h1
      have h2 := blk_setCells r (w.setCell ⟨g, l1.length, none⟩ v) g t (l1 ++ [v]) b (by simpa using h1) (by simpa using hl)
      simp at h2
      exact h2

theorem setCells_other : ∀ (l2 : List Value) (w : World) (g o k : Nat), k ≠ g → (w.setCells g o l2).heap[k]? = w.heap[k]?
  | [], _, _, _, _, _ => rfl
  | v :: r, w, g, o, k, h => by
    show ((w.setCell ⟨g, o, none⟩ v).setCells g (o + 1) r).heap[k]? = _
    rw [setCells_other r _ _ _ _ h, Below.heap_setCell _ _ _ _ h]

theorem setCells_same : ∀ (l2 : List Value) (w : World) (g o : Nat), (w.setCells g o l2).heap.size = w.heap.size ∧ (w.setCells g o l2).os = w.os ∧ (w.setCells g o l2).tape = w.tape ∧ (w.setCells g o l2).output = w.output
  | [], _, _, _ => ⟨rfl, rfl, rfl, rfl⟩
  | v :: r, w, g, o => by
    obtain ⟨h1, h2, h3, h4⟩ := setCells_same r (w.setCell ⟨g, o, none⟩ v) g (o + 1)
    have hz : (w.setCell ⟨g, o, none⟩ v).heap.size = w.heap.size := by simp
    exact ⟨h1.trans hz, h2, h3, h4⟩

theorem ownsRow_cut {w : World} {base e n : Nat} {v v' : Value} {us : List Value} (h : w.ownsRow base e 1 v n us) (hv : (v = .slice none 0 0 ∧ v' = .slice none 0 0) ∨ ∃ g cap, v = .slice (some ⟨g, 0, none⟩) n cap ∧ v' = .slice (some ⟨g, 0, none⟩) 0 cap) : w.ownsRow base e 1 v' 0 [] := by
  rcases hv with ⟨_, rfl⟩ | ⟨g, cap, rfl, rfl⟩
  · exact World.ownsRow_nil _ _ _ _
  · rcases h.2 with ⟨h0, _⟩ | ⟨g', cap', cur, hv, hb, hg, hnc, hcm, hcs, ht⟩
    · cases h0
    · cases hv
      exact ⟨rfl, .inr ⟨g, cap, cur, rfl, hb, hg, Nat.zero_le _, hcm, hcs, by simp⟩⟩

/-- A new round begins: no mark is the round's. -/
theorem start_end {D SS M n : Nat} {ix : Value} {r' : Int} {P : Nat → Nat} {fv' : Value} {W : World} (mk : List Int) (hml : mk.length = n) (h0 : 0 ≤ r') (h1 : r' ≤ 4294967295) (hm : ∀ i, i < n → 0 ≤ mk.getD i 0 ∧ mk.getD i 0 < r')
    (hS : Blk W SS 40 [ix, .bool false, .int .u32 r', .slice (some ⟨M, 0, none⟩) n n, fv']) (hM : Blk W M 25 (mk.map (Value.int .u32))) (ho : W.ownsRow D 67 1 fv' 0 []) : SSt W D SS M n ix r' P fv' [] :=
  ⟨mk, hml, h0, h1, fun i hi => ⟨(hm i hi).1, Int.le_of_lt (hm i hi).2⟩, fun i hi => ⟨fun h => by have := (hm i hi).2; omega, fun h => by simp at h⟩, by simp, by simp, hS, hM, ho⟩

theorem blk_keep {D : Nat} {w : World} {p : Addr} {v : Value} (hp : p.block < D) : Keep D w (w.setCell p v) := fun g cur e hg he hb => by
  rw [Below.heap_setCell _ _ _ _ (by omega)]; exact hb

set_option maxHeartbeats 4000000 in
set_option maxRecDepth 100000 in
theorem start_walk (D SS M n : Nat) (ix : Value) (r : Int) (P : Nat → Nat) (fv : Value) (w : World) (hI : Idle w D SS M n ix r fv) (hSM : SS ≠ M) (hSD : SS < D) (hMD : M < D) :
    Calls Yba.prog 18 #[.pointer (some ⟨SS, 0, none⟩)] w fun e w' => e = .returned (.tuple #[]) ∧ Fr D SS M w w' ∧ Keep D w w' ∧ ∃ r' fv', SSt w' D SS M n ix r' P fv' [] := by
  obtain ⟨mk, k, us, hml, hr0, hr1, hmr, hbS, hbM, hown⟩ := hI
  obtain ⟨fv', hfv⟩ : ∃ fv' : Value, (fv = .slice none 0 0 ∧ fv' = .slice none 0 0) ∨ ∃ g cap, fv = .slice (some ⟨g, 0, none⟩) k cap ∧ fv' = .slice (some ⟨g, 0, none⟩) 0 cap := by
    rcases hown.2 with ⟨h, _⟩ | ⟨g, cap, _, h, _⟩
    · exact ⟨_, .inl ⟨h, rfl⟩⟩
    · exact ⟨_, .inr ⟨g, cap, h, rfl⟩⟩
  have hcut := ownsRow_cut hown hfv
  have hkc : ∀ g cap, fv = .slice (some ⟨g, 0, none⟩) k cap → k ≤ cap := by
    intro g cap h
    rcases hown.2 with ⟨h', _⟩ | ⟨g', cap', _, h', _, _, h2, _⟩
    · rw [h] at h'; cases h'
    · rw [h] at h'; cases h'; exact h2
  have c2 : w.cell? ⟨SS, 2, none⟩ = some (.int .u32 r) := hbS.cell (i := 2) (by simp)
  have c3 : w.cell? ⟨SS, 3, none⟩ = some (.slice (some ⟨M, 0, none⟩) n n) := hbS.cell (i := 3) (by simp)
  have c4 : w.cell? ⟨SS, 4, none⟩ = some fv := hbS.cell (i := 4) (by simp)
  have f2 := hbS.frozen 2
  have f3 := hbS.frozen 3
  have f4 := hbS.frozen 4
  by_cases hw : r = 4294967295
  · subst hw
    have hmk0 : Blk (w.setCell ⟨SS, 2, none⟩ (.int .u32 0)) M 25 ([] ++ mk.map (Value.int .u32)) := hbM.other (p := ⟨SS, 2, none⟩) _ (Ne.symm hSM)
    have hcl := blk_setCells (List.replicate n (Value.int .u32 0)) _ M 25 [] (mk.map (Value.int .u32)) hmk0 (by simp [hml])
    simp only [List.length_nil, List.nil_append] at hcl
    obtain ⟨W, hW⟩ : ∃ W, W = (w.setCell ⟨SS, 2, none⟩ (.int .u32 0)).setCells M 0 (List.replicate n (Value.int .u32 0)) := ⟨_, rfl⟩
    rw [← hW] at hcl
    have hoth : ∀ k, k ≠ M → k ≠ SS → W.heap[k]? = w.heap[k]? := fun k h1 h2 => by rw [hW, setCells_other _ _ _ _ _ h1, Below.heap_setCell _ _ _ _ h2]
    have hWS : Blk W SS 40 [ix, .bool false, .int .u32 0, .slice (some ⟨M, 0, none⟩) n n, fv] := by
      unfold Blk
      rw [hW, setCells_other _ _ _ _ _ hSM]
      exact hbS.set 2 _
    have hsame : W.heap.size = w.heap.size ∧ W.os = w.os ∧ W.tape = w.tape ∧ W.output = w.output := by
      obtain ⟨h1, h2, h3, h4⟩ := setCells_same (List.replicate n (Value.int .u32 0)) (w.setCell ⟨SS, 2, none⟩ (.int .u32 0)) M 0
      rw [← hW] at h1 h2 h3 h4
      exact ⟨h1.trans (by simp), h2, h3, h4⟩
    have hFr : Fr D SS M w W := ⟨hsame.2.1, hsame.2.2.1, hsame.2.2.2, Nat.le_of_eq hsame.1.symm, fun k _ h2 h3 => hoth k h3 h2⟩
    have hKp : Keep D w W := fun g cur e hg he hb => by rw [hoth g (by omega) (by omega)]; exact hb
    have hrep : List.replicate n (Value.int .u32 0) = (List.replicate n (0 : Int)).map (Value.int .u32) := by simp
    rw [hrep] at hcl
    have HF : Hid (Fr D SS M w ((W.setCell ⟨SS, 2, none⟩ (.int .u32 1)).setCell ⟨SS, 4, none⟩ fv')) := hide ((hFr.setCell (p := ⟨SS, 2, none⟩) (.inl rfl) _).setCell (p := ⟨SS, 4, none⟩) (.inl rfl) _)
    have HK : Hid (Keep D w ((W.setCell ⟨SS, 2, none⟩ (.int .u32 1)).setCell ⟨SS, 4, none⟩ fv')) := hide (hKp.trans ((blk_keep (p := ⟨SS, 2, none⟩) hSD).trans (blk_keep (p := ⟨SS, 4, none⟩) hSD)))
    have HE : Hid (SSt ((W.setCell ⟨SS, 2, none⟩ (.int .u32 1)).setCell ⟨SS, 4, none⟩ fv') D SS M n ix 1 P fv' []) := hide (start_end (List.replicate n 0) (by simp) (by omega) (by omega) (fun i hi => by simp [hi]) ((hWS.set 2 _).set 4 _) ((hcl.other (p := ⟨SS, 2, none⟩) _ (Ne.symm hSM)).other (p := ⟨SS, 4, none⟩) _ (Ne.symm hSM))
      (ownsRow_of hcut (fun g hg => by have := (hcut.lt g hg).1; rw [Below.heap_setCell _ _ _ _ (show g ≠ SS by omega), Below.heap_setCell _ _ _ _ (show g ≠ SS by omega), hoth g (by omega) (by omega)])))
    have d2 : W.cell? ⟨SS, 2, none⟩ = some (.int .u32 0) := hWS.cell (i := 2) (by simp)
    have d4 : W.cell? ⟨SS, 4, none⟩ = some fv := hWS.cell (i := 4) (by simp)
    have g2 := hWS.frozen 2
    have g4 := hWS.frozen 4
    have hclr : ∀ ty, (Builtin.clear_ #[23] ty #[.slice (some ⟨M, 0, none⟩) n n]).run Yba.prog (w.setCell ⟨SS, 2, none⟩ (.int .u32 0)) = .ok (.tuple #[]) W := by
      intro ty
      by_cases hn : n = 0
      · subst hn
        rw [hW]
        simp [Builtin.clear_, run_underlying Yba.underlying23, World.setCells]
      · rw [hW]
        refine Lib.run_clear_slice (w.setCell ⟨SS, 2, none⟩ (.int .u32 0)) 23 25 ty (.int .u32 0) Yba.underlying23 Yba.zeroValue25 rfl rfl M 0 n n (by omega) (fun j hj => ?_) (fun j hj => ?_)
        · rw [Nat.zero_add, hmk0.cell (i := j) (by simp [hml]; exact hj)]; rfl
        · exact hmk0.frozen _
    clear hbS hbM hown hmr hml hcut hmk0 hcl hW hoth hWS hsame hFr hKp hrep
    rcases hfv with ⟨rfl, rfl⟩ | ⟨g, cap, rfl, rfl⟩
    · go_enter Yba.func18, Yba.ntmps18
      go_wp2_with fail
      go_end0
      exact ⟨rfl, HF.out, HK.out, _, _, HE.out⟩
    · have hkc2 := hkc g cap rfl
      clear hkc
      go_enter Yba.func18, Yba.ntmps18
      go_wp2_with fail
      go_end0
      exact ⟨rfl, HF.out, HK.out, _, _, HE.out⟩
  · have hr2 : r + 1 ≤ 4294967295 := by omega
    have hr3 : ¬ (r + 1 = 0) := by omega
    have HF : Hid (Fr D SS M w ((w.setCell ⟨SS, 2, none⟩ (.int .u32 (r + 1))).setCell ⟨SS, 4, none⟩ fv')) := hide (((Fr.refl D SS M w).setCell (p := ⟨SS, 2, none⟩) (.inl rfl) _).setCell (p := ⟨SS, 4, none⟩) (.inl rfl) _)
    have HK : Hid (Keep D w ((w.setCell ⟨SS, 2, none⟩ (.int .u32 (r + 1))).setCell ⟨SS, 4, none⟩ fv')) := hide ((blk_keep (p := ⟨SS, 2, none⟩) hSD).trans (blk_keep (p := ⟨SS, 4, none⟩) hSD))
    have HE : Hid (SSt ((w.setCell ⟨SS, 2, none⟩ (.int .u32 (r + 1))).setCell ⟨SS, 4, none⟩ fv') D SS M n ix (r + 1) P fv' []) := hide (start_end mk hml (by omega) hr2 (fun i hi => ⟨(hmr i hi).1, by have := (hmr i hi).2; omega⟩) ((hbS.set 2 _).set 4 _) ((hbM.other (p := ⟨SS, 2, none⟩) _ (Ne.symm hSM)).other (p := ⟨SS, 4, none⟩) _ (Ne.symm hSM))
      (ownsRow_of hcut (fun g hg => by have := (hcut.lt g hg).1; rw [Below.heap_setCell _ _ _ _ (show g ≠ SS by omega), Below.heap_setCell _ _ _ _ (show g ≠ SS by omega)])))
    clear hbS hbM hown hmr hml hcut
    rcases hfv with ⟨rfl, rfl⟩ | ⟨g, cap, rfl, rfl⟩
    · go_enter Yba.func18, Yba.ntmps18
      go_wp2_with fail
      go_end0
      exact ⟨rfl, HF.out, HK.out, _, _, HE.out⟩
    · have hkc2 := hkc g cap rfl
      clear hkc
      go_enter Yba.func18, Yba.ntmps18
      go_wp2_with fail
      go_end0
      exact ⟨rfl, HF.out, HK.out, _, _, HE.out⟩
end Go.Proofs.Ybulkbte
