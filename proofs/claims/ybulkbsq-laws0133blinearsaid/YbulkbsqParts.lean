/- zzs0133aparts by contracts. -/
import Derived.Test.YbulkbsqAgg
namespace Go.Proofs.Ybulkbsq
open Go.RowKit Go.WideShapes

theorem ta6161 (r : Nat) (w : World) : (Instr.typeAssert (.iface 61 (.pointer (some ⟨r, 0, none⟩))) 33 61 true).run Yba.prog w = .ok (.tuple #[.pointer (some ⟨r, 0, none⟩), .bool true]) w := by kernel_rfl
theorem ta7461 (r : Nat) (w : World) : (Instr.typeAssert (.iface 74 (.pointer (some ⟨r, 0, none⟩))) 33 61 true).run Yba.prog w = .ok (.tuple #[.pointer none, .bool false]) w := by kernel_rfl
theorem ta7474 (r : Nat) (w : World) : (Instr.typeAssert (.iface 74 (.pointer (some ⟨r, 0, none⟩))) 33 74 true).run Yba.prog w = .ok (.tuple #[.pointer (some ⟨r, 0, none⟩), .bool true]) w := by kernel_rfl
theorem ta7861 (r : Nat) (w : World) : (Instr.typeAssert (.iface 78 (.pointer (some ⟨r, 0, none⟩))) 33 61 true).run Yba.prog w = .ok (.tuple #[.pointer none, .bool false]) w := by kernel_rfl
theorem ta7874 (r : Nat) (w : World) : (Instr.typeAssert (.iface 78 (.pointer (some ⟨r, 0, none⟩))) 33 74 true).run Yba.prog w = .ok (.tuple #[.pointer none, .bool false]) w := by kernel_rfl
theorem ta7878 (r : Nat) (w : World) : (Instr.typeAssert (.iface 78 (.pointer (some ⟨r, 0, none⟩))) 33 78 true).run Yba.prog w = .ok (.tuple #[.pointer (some ⟨r, 0, none⟩), .bool true]) w := by kernel_rfl

set_option maxHeartbeats 1000000 in
set_option maxRecDepth 100000 in
theorem parts_rank (w : World) (r pe px g k : Nat) (wo : Bool) (hr : r < w.heap.size) (h0 : w.cell? ⟨r, 0, none⟩ = some (.pointer (some ⟨pe, 0, none⟩))) (h1 : w.cell? ⟨r, 1, none⟩ = some .nilIface)
    (h2 : w.cell? ⟨r, 2, none⟩ = some (.iface 29 (.pointer (some ⟨px, 0, none⟩)))) (h3 : w.cell? ⟨r, 3, none⟩ = some (.func (.func k) #[] #[])) (hG : GroupAt w r 4 wo g) :
    Calls Yba.prog 8 #[.iface 61 (.pointer (some ⟨r, 0, none⟩))] w fun e w' =>
      e = .returned (.tuple #[.int .i64 1, .pointer (some ⟨pe, 0, none⟩), .nilIface, .iface 29 (.pointer (some ⟨px, 0, none⟩)), .agg #[.func (.func (byFn wo)) #[] #[.pointer (some ⟨g, 0, none⟩)], .map none, .slice none 0 0, .slice none 0 0], .func (.func k) #[] #[]]) ∧ Below w.heap.size w w' := by
  obtain ⟨g0, g1, g2, g3⟩ := hG
  have t0 := ta6161 r
  go_enter Yba.func8, Yba.ntmps8
  go_wp2
  go_region
  go_wp2
  exact bodyPost_ret (v := .tuple #[.int .i64 1, .pointer (some ⟨pe, 0, none⟩), .nilIface, .iface 29 (.pointer (some ⟨px, 0, none⟩)), .agg #[.func (.func (byFn wo)) #[] #[.pointer (some ⟨g, 0, none⟩)], .map none, .slice none 0 0, .slice none 0 0], .func (.func k) #[] #[]]) (by simp [results, Yba.results8, go_sem]) rfl ⟨rfl, ((Below.refl _ _).alloc (Nat.le_refl _) _).drew⟩

set_option maxHeartbeats 1000000 in
set_option maxRecDepth 100000 in
theorem parts_count (w : World) (r pe px g : Nat) (wo : Bool) (hr : r < w.heap.size) (h0 : w.cell? ⟨r, 0, none⟩ = some (.pointer (some ⟨pe, 0, none⟩))) (h1 : w.cell? ⟨r, 1, none⟩ = some .nilIface)
    (h2 : w.cell? ⟨r, 2, none⟩ = some (.iface 29 (.pointer (some ⟨px, 0, none⟩)))) (hG : GroupAt w r 3 wo g) :
    Calls Yba.prog 8 #[.iface 74 (.pointer (some ⟨r, 0, none⟩))] w fun e w' =>
      e = .returned (.tuple #[.int .i64 2, .pointer (some ⟨pe, 0, none⟩), .nilIface, .iface 29 (.pointer (some ⟨px, 0, none⟩)), .agg #[.func (.func (byFn wo)) #[] #[.pointer (some ⟨g, 0, none⟩)], .map none, .slice none 0 0, .slice none 0 0], .nilFunc]) ∧ Below w.heap.size w w' := by
  obtain ⟨g0, g1, g2, g3⟩ := hG
  have t0 := ta7461 r
  have t1 := ta7474 r
  go_enter Yba.func8, Yba.ntmps8
  go_wp2
  go_region
  go_wp2
  exact bodyPost_ret (v := .tuple #[.int .i64 2, .pointer (some ⟨pe, 0, none⟩), .nilIface, .iface 29 (.pointer (some ⟨px, 0, none⟩)), .agg #[.func (.func (byFn wo)) #[] #[.pointer (some ⟨g, 0, none⟩)], .map none, .slice none 0 0, .slice none 0 0], .nilFunc]) (by simp [results, Yba.results8, go_sem]) rfl ⟨rfl, ((Below.refl _ _).alloc (Nat.le_refl _) _).drew⟩

set_option maxHeartbeats 1000000 in
set_option maxRecDepth 100000 in
theorem parts_red (w : World) (r pe px g : Nat) (wo : Bool) (hr : r < w.heap.size) (h0 : w.cell? ⟨r, 0, none⟩ = some (.pointer (some ⟨pe, 0, none⟩))) (h1 : w.cell? ⟨r, 1, none⟩ = some .nilIface)
    (h2 : w.cell? ⟨r, 2, none⟩ = some (.iface 29 (.pointer (some ⟨px, 0, none⟩)))) (hG : GroupAt w r 3 wo g) :
    Calls Yba.prog 8 #[.iface 78 (.pointer (some ⟨r, 0, none⟩))] w fun e w' =>
      e = .returned (.tuple #[.int .i64 3, .pointer (some ⟨pe, 0, none⟩), .nilIface, .iface 29 (.pointer (some ⟨px, 0, none⟩)), .agg #[.func (.func (byFn wo)) #[] #[.pointer (some ⟨g, 0, none⟩)], .map none, .slice none 0 0, .slice none 0 0], .nilFunc]) ∧ Below w.heap.size w w' := by
  obtain ⟨g0, g1, g2, g3⟩ := hG
  have t0 := ta7861 r
  have t1 := ta7874 r
  have t2 := ta7878 r
  go_enter Yba.func8, Yba.ntmps8
  go_wp2
  go_region
  go_wp2
  exact bodyPost_ret (v := .tuple #[.int .i64 3, .pointer (some ⟨pe, 0, none⟩), .nilIface, .iface 29 (.pointer (some ⟨px, 0, none⟩)), .agg #[.func (.func (byFn wo)) #[] #[.pointer (some ⟨g, 0, none⟩)], .map none, .slice none 0 0, .slice none 0 0], .nilFunc]) (by simp [results, Yba.results8, go_sem]) rfl ⟨rfl, ((Below.refl _ _).alloc (Nat.le_refl _) _).drew⟩

end Go.Proofs.Ybulkbsq
