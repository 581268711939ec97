/- The rpsl statements of this seat: rows, frames, the state of a search. -/
import Derived.Test.YbulkbteBase
import Derived.Lib.SliceRun
namespace Go.Proofs.Ybulkbte
open Go.RowKit Go.WideShapes

/-- A slice value whose elements (one cell each) read us; its cells lie below block C. -/
def Row (C : Nat) (w : World) (v : Value) (us : List Value) : Prop :=
  ∃ ao c, v = .slice ao us.length c ∧ (ao = none → us = [] ∧ c = 0) ∧ ∀ x, ao = some x → ∀ j u, us[j]? = some u → x.block < C ∧ w.cell? (x.add j) = some u

theorem add_block (x : Addr) (j : Nat) : (x.add j).block = x.block := by unfold Addr.add; split <;> rfl

theorem Row.below {C : Nat} {w w' : World} {v : Value} {us : List Value} (h : Row C w v us) (hb : Below C w w') : Row C w' v us := by
  obtain ⟨ao, c, h1, h2, h3⟩ := h
  refine ⟨ao, c, h1, h2, fun x hx j u hu => ?_⟩
  obtain ⟨a1, a2⟩ := h3 x hx j u hu
  exact ⟨a1, by rw [hb.cell (p := x.add j) (by rw [add_block]; exact a1)]; exact a2⟩

theorem Row.mono {C C' : Nat} {w : World} {v : Value} {us : List Value} (h : Row C w v us) (hC : C ≤ C') : Row C' w v us := by
  obtain ⟨ao, c, h1, h2, h3⟩ := h
  exact ⟨ao, c, h1, h2, fun x hx j u hu => ⟨Nat.lt_of_lt_of_le (h3 x hx j u hu).1 hC, (h3 x hx j u hu).2⟩⟩

theorem Row.nil (C : Nat) (w : World) : Row C w (.slice none 0 0) [] := ⟨none, 0, rfl, fun _ => ⟨rfl, rfl⟩, fun x hx => by cases hx⟩

theorem Row.ofOwns {w : World} {base e n : Nat} {v : Value} {us : List Value} (h : w.ownsRow base e 1 v n us) : Row w.heap.size w v us := by
  have hl : us.length = n := by have := h.1; omega
  rcases h.2 with ⟨rfl, rfl⟩ | ⟨g, cap, cur, rfl, hb, hg, hnc, hcm, hcs, ht⟩
  · rw [List.eq_nil_of_length_eq_zero hl]; exact Row.nil _ _
  · refine ⟨some ⟨g, 0, none⟩, cap, by rw [hl], (fun h => by cases h), fun x hx j u hu => ?_⟩
    cases hx
    have hlt := (Array.getElem?_eq_some_iff.1 hg).1
    exact ⟨hlt, h.cells (g := g) rfl j u hu⟩

/-- Where an element stands. -/
theorem Row.at {C : Nat} {w : World} {v : Value} {us : List Value} (h : Row C w v us) (hpos : 0 < us.length) :
    ∃ b off c, v = .slice (some ⟨b, off, none⟩) us.length c ∧ b < C ∧ ∀ j (hj : j < us.length), w.cell? ⟨b, off + j, none⟩ = some us[j] := by
  obtain ⟨ao, c, h1, h2, h3⟩ := h
  cases ao with
  | none => have := (h2 rfl).1; rw [this] at hpos; simp at hpos
  | some x =>
    have h0 := h3 x rfl 0 _ (List.getElem?_eq_getElem hpos)
    obtain ⟨b, off, spot⟩ := x
    have hspot : spot = none := by simpa [Addr.add] using World.cell?_spot h0.2
    subst hspot
    refine ⟨b, off, c, h1, h0.1, fun j hj => ?_⟩
    have := (h3 _ rfl j _ (List.getElem?_eq_getElem hj)).2
    rwa [add_plain] at this

/-- Blocks below D other than SS and M are as they were. -/
structure Fr (D SS M : Nat) (w w' : World) : Prop where
  os : w'.os = w.os
  tape : w'.tape = w.tape
  output : w'.output = w.output
  size : w.heap.size ≤ w'.heap.size
  block : ∀ k, k < D → k ≠ SS → k ≠ M → w'.heap[k]? = w.heap[k]?

theorem Fr.refl (D SS M : Nat) (w : World) : Fr D SS M w w := ⟨rfl, rfl, rfl, Nat.le_refl _, fun _ _ _ _ => rfl⟩
theorem Fr.trans {D SS M : Nat} {a b c : World} (h : Fr D SS M a b) (k : Fr D SS M b c) : Fr D SS M a c :=
  ⟨k.os.trans h.os, k.tape.trans h.tape, k.output.trans h.output, Nat.le_trans h.size k.size, fun i h1 h2 h3 => (k.block i h1 h2 h3).trans (h.block i h1 h2 h3)⟩
theorem Fr.ofBelow {D SS M : Nat} {w w' : World} (h : Below D w w') : Fr D SS M w w' := ⟨h.os, h.tape, h.output, h.size, fun k hk _ _ => h.block k hk⟩
theorem Fr.drew {D SS M : Nat} {a w : World} (h : Fr D SS M a w) : Fr D SS M a w.drew := ⟨h.os, h.tape, h.output, h.size, h.block⟩
theorem Fr.drewN {D SS M : Nat} {a w : World} (h : Fr D SS M a w) (q : Nat) : Fr D SS M a (w.drewN q) := ⟨h.os, h.tape, h.output, h.size, h.block⟩
theorem Fr.setCell {D SS M : Nat} {a w : World} (h : Fr D SS M a w) {p : Addr} (hp : p.block = SS ∨ p.block = M ∨ D ≤ p.block) (u : Value) : Fr D SS M a (w.setCell p u) :=
  ⟨h.os, h.tape, h.output, by simpa using h.size, fun k h1 h2 h3 => by rw [Below.heap_setCell _ _ _ _ (by omega)]; exact h.block k h1 h2 h3⟩
theorem Fr.alloc {D SS M : Nat} {a w : World} (h : Fr D SS M a w) (hD : D ≤ w.heap.size) (o : Obj) : Fr D SS M a (w.alloc o) :=
  h.trans (Fr.ofBelow ((Below.refl D w).alloc hD o))
theorem Fr.grown {D SS M : Nat} {a w w' : World} {row : Option Nat} (h : Fr D SS M a w) (hg : w.grownBy w' row) (hD : D ≤ w.heap.size) (hr : ∀ k, row = some k → D ≤ k) : Fr D SS M a w' :=
  h.trans (Fr.ofBelow ((Below.refl D w).grown hg hD hr))
theorem Fr.below {D SS M C : Nat} {w w' : World} (h : Fr D SS M w w') (h1 : C ≤ SS) (h2 : C ≤ M) (h3 : C ≤ D) : Below C w w' :=
  ⟨h.os, h.tape, h.output, h.size, fun k hk => h.block k (by omega) (by omega) (by omega)⟩

def pt (P : Nat → Nat) (i : Nat) : Value := .pointer (some ⟨P i, 0, none⟩)

/-- The sets that were built: object i stands at block P i; it lists the ASes A i and the sets S i. All below C. -/
def Stat (C : Nat) (w : World) (n : Nat) (P : Nat → Nat) (A : Nat → List Int) (S : Nat → List Nat) : Prop :=
  ∀ i, i < n → P i < C ∧ w.cell? ⟨P i, 1, none⟩ = some (.int .i64 i) ∧ ∃ av sv, w.cell? ⟨P i, 5, none⟩ = some av ∧ w.cell? ⟨P i, 6, none⟩ = some sv ∧ Row C w av ((A i).map (Value.int .u32)) ∧ Row C w sv ((S i).map (pt P))

theorem Stat.below {C : Nat} {w w' : World} {n : Nat} {P : Nat → Nat} {A : Nat → List Int} {S : Nat → List Nat} (h : Stat C w n P A S) (hb : Below C w w') : Stat C w' n P A S := by
  intro i hi
  obtain ⟨h1, h2, av, sv, h3, h4, h5, h6⟩ := h i hi
  exact ⟨h1, by rw [hb.cell (p := ⟨P i, 1, none⟩) h1]; exact h2, av, sv, by rw [hb.cell (p := ⟨P i, 5, none⟩) h1]; exact h3, by rw [hb.cell (p := ⟨P i, 6, none⟩) h1]; exact h4, h5.below hb, h6.below hb⟩

/-- A search between two searches. -/
def Idle (w : World) (D SS M n : Nat) (ix : Value) (r : Int) (fv : Value) : Prop :=
  ∃ (mk : List Int) (k : Nat) (us : List Value), mk.length = n ∧ 0 ≤ r ∧ r ≤ 4294967295 ∧ (∀ i, i < n → 0 ≤ mk.getD i 0 ∧ mk.getD i 0 ≤ r) ∧
    Blk w SS 40 [ix, .bool false, .int .u32 r, .slice (some ⟨M, 0, none⟩) n n, fv] ∧ Blk w M 25 (mk.map (Value.int .u32)) ∧ w.ownsRow D 67 1 fv k us

/-- A search that has met fs, in this order. -/
def SSt (w : World) (D SS M n : Nat) (ix : Value) (r : Int) (P : Nat → Nat) (fv : Value) (fs : List Nat) : Prop :=
  ∃ (mk : List Int), mk.length = n ∧ 0 ≤ r ∧ r ≤ 4294967295 ∧ (∀ i, i < n → 0 ≤ mk.getD i 0 ∧ mk.getD i 0 ≤ r) ∧ (∀ i, i < n → (mk.getD i 0 = r ↔ i ∈ fs)) ∧ fs.Nodup ∧ (∀ i ∈ fs, i < n) ∧
    Blk w SS 40 [ix, .bool false, .int .u32 r, .slice (some ⟨M, 0, none⟩) n n, fv] ∧ Blk w M 25 (mk.map (Value.int .u32)) ∧ w.ownsRow D 67 1 fv fs.length (fs.map (pt P))

theorem SSt.idle {w : World} {D SS M n : Nat} {ix : Value} {r : Int} {P : Nat → Nat} {fv : Value} {fs : List Nat} (h : SSt w D SS M n ix r P fv fs) : Idle w D SS M n ix r fv := by
  obtain ⟨mk, h1, h2, h3, h4, _, _, _, h5, h6, h7⟩ := h
  exact ⟨mk, _, _, h1, h2, h3, h4, h5, h6, h7⟩

/-- A row stays whose block stays. -/
theorem ownsRow_of {w w' : World} {base e n : Nat} {v : Value} {us : List Value} (h : w.ownsRow base e 1 v n us) (hk : ∀ g, v.ownBlock = some g → w'.heap[g]? = w.heap[g]?) : w'.ownsRow base e 1 v n us := by
  refine ⟨h.1, ?_⟩
  rcases h.2 with h0 | ⟨g, cap, cur, rfl, hb, hg, r⟩
  · exact .inl h0
  · exact .inr ⟨g, cap, cur, rfl, hb, by rw [hk g rfl]; exact hg, r⟩

theorem ownsRow_block {w : World} {base e n g : Nat} {v : Value} {us : List Value} (h : w.ownsRow base e 1 v n us) (hg : v.ownBlock = some g) : ∃ cur, w.heap[g]? = some (.cells cur e (0, 0)) := by
  rcases h.2 with ⟨rfl, _⟩ | ⟨g', cap, cur, rfl, hb, hg', r⟩
  · simp [Value.ownBlock] at hg
  · simp [Value.ownBlock] at hg
    subst hg
    exact ⟨cur, hg'⟩

/-- Blocks from D on that hold no pointers to sets stay. -/
def Keep (D : Nat) (w w' : World) : Prop := ∀ g cur e, D ≤ g → e ≠ 67 → w.heap[g]? = some (.cells cur e (0, 0)) → w'.heap[g]? = some (.cells cur e (0, 0))

theorem Keep.refl (D : Nat) (w : World) : Keep D w w := fun _ _ _ _ _ h => h
theorem Keep.trans {D : Nat} {a b c : World} (h : Keep D a b) (k : Keep D b c) : Keep D a c := fun g cur e h1 h2 h3 => k g cur e h1 h2 (h g cur e h1 h2 h3)
theorem Keep.row {D : Nat} {w w' : World} (h : Keep D w w') {e n : Nat} {v : Value} {us : List Value} (he : e ≠ 67) (ho : w.ownsRow D e 1 v n us) : w'.ownsRow D e 1 v n us := by
  refine ⟨ho.1, ?_⟩
  rcases ho.2 with h0 | ⟨g, cap, cur, rfl, hb, hg, r⟩
  · exact .inl h0
  · exact .inr ⟨g, cap, cur, rfl, hb, h g cur e hb he hg, r⟩
theorem Keep.blk {D : Nat} {w w' : World} (h : Keep D w w') {g e : Nat} {l : List Value} (he : e ≠ 67) (hg : D ≤ g) (hb : Blk w g e l) : Blk w' g e l := h g _ e hg he hb

theorem nodup_len : ∀ {n : Nat} {l : List Nat}, l.Nodup → (∀ x ∈ l, x < n) → l.length ≤ n
  | 0, l, _, hl => by
    cases l with
    | nil => simp
    | cons a r => exact absurd (hl a (by simp)) (Nat.not_lt_zero _)
  | n + 1, l, h, hl => by
    by_cases hm : n ∈ l
    · have := nodup_len (n := n) (h.erase n) (fun x hx => by
        have h1 := (h.mem_erase_iff).1 hx
        have h2 := hl x h1.2
        have h3 := h1.1
        omega)
      rw [List.length_erase_of_mem hm] at this
      omega
    · have := nodup_len (n := n) h (fun x hx => by
        have h2 := hl x hx
        have h3 : x ≠ n := fun e => hm (e ▸ hx)
        omega)
      omega

/-- meet, plainly. -/
def addN (fs : List Nat) (i : Nat) : List Nat := if i ∈ fs then fs else fs ++ [i]

theorem info67 : Option.map (fun i => (i.zero, i.size, i.bytes)) (Yba.prog.info? 67) = some (some (.pointer none), 1, 8) := by kernel_rfl
theorem info25 : Option.map (fun i => (i.zero, i.size, i.bytes)) (Yba.prog.info? 25) = some (some (.int .u32 0), 1, 4) := by kernel_rfl
theorem info4 : Option.map (fun i => (i.zero, i.size, i.bytes)) (Yba.prog.info? 4) = some (some (.bool false), 1, 1) := by kernel_rfl
end Go.Proofs.Ybulkbte
