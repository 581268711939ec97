/- Small notions of this seat's proofs: a row of strings in memory; what a function that makes memory leaves. -/
import Derived.Test.YbulkbsqRows
import Derived.WalkKit
import Derived.WalkSpells
import Derived.WalkLawsBesides
import Derived.BigRegion
import Derived.Laws.EntriesVeiled
import Derived.Deep.RegionWith
import Derived.Laws.AppendOwnNone
import Derived.WideShapes
namespace Go.Proofs.Ybulkbsq
open Go.RowKit Go.WideShapes

theorem hide {p : Prop} (h : p) : Hid p := h

/-- The slice (a, n, ..) leads to the strings 'ss', in blocks that 'ok' lets. -/
def StrRow (ok : Nat → Prop) (w : World) (a : Option Addr) (n : Nat) (ss : List ByteArray) : Prop :=
  ss.length = n ∧ (n = 0 ∨ ∃ b off : Nat, a = some ⟨b, off, none⟩ ∧ ok b ∧ ∀ i, i < n → w.cell? ⟨b, off + i, none⟩ = some (.string (ss.getD i ByteArray.empty)))

theorem StrRow.mono {ok ok' : Nat → Prop} {w : World} {a : Option Addr} {n : Nat} {ss : List ByteArray} (h : StrRow ok w a n ss) (hk : ∀ k, ok k → ok' k) : StrRow ok' w a n ss := by
  refine ⟨h.1, ?_⟩
  rcases h.2 with h0 | ⟨b, off, hx, ho, hc⟩
  · exact .inl h0
  · exact .inr ⟨b, off, hx, hk _ ho, hc⟩

/-- It reads so in every world whose cells in such blocks are the same. -/
theorem StrRow.same {ok : Nat → Prop} {w w' : World} {a : Option Addr} {n : Nat} {ss : List ByteArray} (h : StrRow ok w a n ss) (hs : ∀ p : Addr, ok p.block → (∃ v, w.cell? p = some v) → w'.cell? p = w.cell? p) : StrRow ok w' a n ss := by
  refine ⟨h.1, ?_⟩
  rcases h.2 with h0 | ⟨b, off, hx, ho, hc⟩
  · exact .inl h0
  · exact .inr ⟨b, off, hx, ho, fun i hi => by rw [hs ⟨b, off + i, none⟩ ho ⟨_, hc i hi⟩]; exact hc i hi⟩

theorem cell_lt {w : World} {p : Addr} {v : Value} (h : w.cell? p = some v) : p.block < w.heap.size := by
  by_cases hb : p.block < w.heap.size
  · exact hb
  · have : w.heap[p.block]? = none := by simp; omega
    simp [World.cell?, this] at h

theorem bcell {B : Nat} {W w1 : World} (hb : Below B W w1) : (∀ b o, b < B → w1.cell? ⟨b, o, none⟩ = W.cell? ⟨b, o, none⟩) ∧ (∀ b o, b < B → w1.frozen? ⟨b, o, none⟩ = W.frozen? ⟨b, o, none⟩) :=
  ⟨fun b o h => hb.cell (p := ⟨b, o, none⟩) h, fun b o h => hb.frozen (p := ⟨b, o, none⟩) h⟩

theorem StrRow.below {ok : Nat → Prop} {B : Nat} {w w' : World} {a : Option Addr} {n : Nat} {ss : List ByteArray} (h : StrRow ok w a n ss) (hb : Below B w w') (hB : w.heap.size ≤ B) : StrRow ok w' a n ss :=
  h.same fun _ _ ⟨_, hv⟩ => hb.cell (Nat.lt_of_lt_of_le (cell_lt hv) hB)

def MN : ByteArray := ⟨#[95, 95, 110, 97, 109, 101, 95, 95]⟩

theorem Yba.info9 : (Yba.prog.info? 9).map (fun i => (i.zero, i.size, i.bytes)) = some (some (.string ByteArray.empty), 1, 16) := by kernel_rfl

/-- What 'groupingLabels' binds: a variable (block g) that holds a slice of the strings ss. -/
def Bound (ok : Nat → Prop) (w : World) (g : Nat) (ss : List ByteArray) : Prop :=
  ∃ a n c, w.cell? ⟨g, 0, none⟩ = some (.slice a n c) ∧ StrRow ok w a n ss

theorem Bound.below {ok : Nat → Prop} {B : Nat} {w w' : World} {g : Nat} {ss : List ByteArray} (h : Bound ok w g ss) (hb : Below B w w') (hB : w.heap.size ≤ B) : Bound ok w' g ss := by
  obtain ⟨a, n, c, h1, h2⟩ := h
  exact ⟨a, n, c, by rw [hb.cell (Nat.lt_of_lt_of_le (cell_lt h1) hB)]; exact h1, h2.below hb hB⟩
end Go.Proofs.Ybulkbsq
