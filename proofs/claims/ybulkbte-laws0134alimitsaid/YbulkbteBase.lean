/- Small notions of this seat's proofs: a block of cells, whole. -/
import Derived.Test.YbulkbteRows
import Derived.WalkKit
import Derived.WalkSpells
import Derived.WalkLawsBesides
import Derived.BigRegion
import Derived.BigQuiet
import Derived.Deep.QuietTactic
import Derived.Deep.RegionLaw
import Derived.Deep.RegionWith
import Derived.Laws.CopyOwn
import Derived.Deep.DeepCutAuto
import Derived.Deep.Light
import Derived.WideShapes
namespace Go.Proofs.Ybulkbte
open Go.RowKit Go.WideShapes

theorem hide {p : Prop} (h : p) : Hid p := h

/-- Block g of the world w: cells of type t, the values l, none frozen. -/
def Blk (w : World) (g : Nat) (t : TypeId) (l : List Value) : Prop := w.heap[g]? = some (.cells l.toArray t (0, 0))

theorem Blk.lt {w : World} {g : Nat} {t : TypeId} {l : List Value} (h : Blk w g t l) : g < w.heap.size := (Array.getElem?_eq_some_iff.1 h).1

theorem Blk.cell {w : World} {g : Nat} {t : TypeId} {l : List Value} (h : Blk w g t l) {i : Nat} (hi : i < l.length) : w.cell? ⟨g, i, none⟩ = some l[i] := by
  have h' : w.heap[g]? = some (.cells l.toArray t (0, 0)) := h
  simp [World.cell?, h', hi]

theorem Blk.frozen {w : World} {g : Nat} {t : TypeId} {l : List Value} (h : Blk w g t l) (i : Nat) : w.frozen? ⟨g, i, none⟩ = false := by
  have h' : w.heap[g]? = some (.cells l.toArray t (0, 0)) := h
  simp [World.frozen?, h']

theorem Blk.set {w : World} {g : Nat} {t : TypeId} {l : List Value} (h : Blk w g t l) (i : Nat) (v : Value) : Blk (w.setCell ⟨g, i, none⟩ v) g t (l.set i v) := by
  have h' : w.heap[g]? = some (.cells l.toArray t (0, 0)) := h
  unfold Blk
  simp [World.setCell, Array.getElem?_modify, h']

theorem Blk.below {B : Nat} {w w' : World} {g : Nat} {t : TypeId} {l : List Value} (h : Blk w g t l) (hb : Below B w w') (hg : g < B) : Blk w' g t l := by
  unfold Blk; rw [hb.block g hg]; exact h

theorem Blk.other {w : World} {g : Nat} {t : TypeId} {l : List Value} (h : Blk w g t l) {p : Addr} (v : Value) (hp : g ≠ p.block) : Blk (w.setCell p v) g t l := by
  unfold Blk; rw [Below.heap_setCell _ _ _ _ hp]; exact h

theorem Blk.alloc {w : World} {g : Nat} {t : TypeId} {l : List Value} (h : Blk w g t l) (o : Obj) : Blk (w.alloc o) g t l :=
  h.below ((Below.refl w.heap.size w).alloc (Nat.le_refl _) o) h.lt

theorem Blk.new (w : World) (t : TypeId) (l : List Value) : Blk (w.alloc (.cells l.toArray t)) w.heap.size t l := heap_alloc_new w _

theorem Blk.drew {w : World} {g : Nat} {t : TypeId} {l : List Value} (h : Blk w g t l) : Blk w.drew g t l := h

/-- Out of the law of 'make'. -/
theorem Blk.ofOwns {w : World} {base g n : Nat} {e : TypeId} {xs : List Value} (h : w.ownsRow base e 1 (.slice (some ⟨g, 0, none⟩) n n) n xs) : Blk w g e xs := by
  rcases h.2 with ⟨h0, _⟩ | ⟨g', cap, cur, hv, _, hc, _, _, hs, ht⟩
  · simp at h0
  · simp at hv
    obtain ⟨rfl, rfl⟩ := hv
    have : cur.toList = xs := by rw [← ht, List.take_of_length_le (by simp; omega)]
    unfold Blk
    rw [hc, ← this]

/-- The cells of a block, as the laws of append and copy ask for them. -/
theorem Blk.src {w : World} {g : Nat} {t : TypeId} {l : List Value} (h : Blk w g t l) : ∀ j v, l[j]? = some v → w.cell? ((⟨g, 0, none⟩ : Addr).add j) = some v := by
  intro j v hj
  obtain ⟨hlt, he⟩ := List.getElem?_eq_some_iff.1 hj
  rw [add_plain, Nat.zero_add, h.cell hlt, he]

theorem bcell {B : Nat} {W w1 : World} (hb : Below B W w1) : (∀ b o, b < B → w1.cell? ⟨b, o, none⟩ = W.cell? ⟨b, o, none⟩) ∧ (∀ b o, b < B → w1.frozen? ⟨b, o, none⟩ = W.frozen? ⟨b, o, none⟩) :=
  ⟨fun b o h => hb.cell (p := ⟨b, o, none⟩) h, fun b o h => hb.frozen (p := ⟨b, o, none⟩) h⟩

theorem cell_lt {w : World} {p : Addr} {v : Value} (h : w.cell? p = some v) : p.block < w.heap.size := by
  by_cases hb : p.block < w.heap.size
  · exact hb
  · have : w.heap[p.block]? = none := by simp; omega
    simp [World.cell?, this] at h

/-- A slice of integers that came in: nil; or a row of 'cap' cells. -/
def IsRow (k : IntKind) (w : World) (a : Option Addr) (len cap : Nat) (zs : List Int) : Prop :=
  (a = none ∧ len = 0 ∧ cap = 0 ∧ zs = []) ∨
  ∃ x, a = some x ∧ len ≤ cap ∧ cap ≤ maxLen ∧ zs.length = cap ∧ (∀ i, i < zs.length → w.cell? (x.add i) = some (.int k (zs.getD i 0))) ∧ ∀ n ∈ zs, (Lit.int k n).wf = true

/-- The same, for the elements alone. -/
theorem IsRow.at {k : IntKind} {w : World} {a : Option Addr} {len cap : Nat} {zs : List Int} (h : IsRow k w a len cap zs) :
    len ≤ zs.length ∧ (a = none → len = 0 ∧ cap = 0) ∧ (0 < len → ∃ b off, a = some ⟨b, off, none⟩ ∧ b < w.heap.size ∧ ∀ i, i < len → w.cell? ⟨b, off + i, none⟩ = some (.int k (zs.getD i 0))) := by
  rcases h with ⟨rfl, rfl, rfl, rfl⟩ | ⟨x, rfl, hl, _, hz, hc, _⟩
  · exact ⟨Nat.le_refl _, fun _ => ⟨rfl, rfl⟩, fun h => absurd h (by omega)⟩
  · refine ⟨by omega, (fun h => by cases h), fun hpos => ?_⟩
    obtain ⟨b, off, spot⟩ := x
    have hspot : spot = none := by simpa [Addr.add] using World.cell?_spot (hc 0 (by omega))
    subst hspot
    refine ⟨b, off, rfl, cell_lt (hc 0 (by omega)), fun i hi => ?_⟩
    have := hc i (by omega)
    rwa [add_plain] at this
end Go.Proofs.Ybulkbte
