/-
  No cell of these rows narrows 'for every input' (looked for: loops, veiled, ifaces, maps, wideKeys, modest, calm, conditions, laid).
  DERIVED. THE GIVEN ROWS OF THIS SEAT. 4 by the template 'for every input the law returns true; each argument reads behind the call as it read before'; 0 by the template 'total and deterministic' (their statements: YbulkbsqTotals.lean).
  GIVEN WITH THE SEED: the statements are not yours to turn. If you find one false, say at which input.
  Laid BY PROGRAM, IN A SANDBOX (cutbox-rows.mjs): the forced cells as the released guide's own fill.sh prints them over the translation 18e2f4961d21d03c… (all of the seat's roots in one cut). By AI agents, Wed Nov 11 2026. No macro, syntax, notation, axiom, sorry.
-/
import Derived.Test.YbulkbsqChecked
import GoSem.Claim
import GoSem.ClaimJoined
import GoSem.ClaimMapViews
import Derived.JoinedTies
import Derived.KernelRfl
namespace Go.Proofs.Ybulkbsq
/- THE CELL 'sum', in the pinned program and in every row, IS THE sha256 OF THE DUMP (.gsa) THAT YbulkbsqProg.lean LOADS. Nothing in Lean hashes anything: it is a label: what it is worth is what the hold of that sum in a sandbox is worth. -/
noncomputable def Yba.pinned : Pinned := { name := "ybulkbsq", sum := "18e2f4961d21d03c955560dcf816a6290669b3944edebe4c875b9d6506810ad1", checked := Yba.checked }
namespace Rows
def none {H : Type} : Left H := { results := [], args := [] }

/-- 'engine.LawS0133ADispatch': WHATEVER THE INPUT: true; the input reads as it did. -/
def lawS0133ADispatchSpec : ChangeSpec := { name := "lawS0133ADispatch", fn := fun _ => fun
  | [d1, d2, d3, d4] => { results := [.lit (.bool true)], args := [d1, d2, d3, d4] }
  | _ => none }
def lawS0133ADispatchRow : OpenClaim := { program := "ybulkbsq", sum := "18e2f4961d21d03c955560dcf816a6290669b3944edebe4c875b9d6506810ad1", func := "example.com/lockstep/lockstep/internal/engine.LawS0133ADispatch", spec := "lawS0133ADispatch", unfollowed := true, recurses := true, plainKeys := false, apart := false }
def LawS0133ADispatchSaid : Prop := lawS0133ADispatchRow.holds Yba.pinned (OpenSpec.ofChange lawS0133ADispatchSpec)

/-- ITS FALSE NEIGHBOUR: 'it returns false'. Refute it at one input. -/
def lawS0133ADispatchWrong : ChangeSpec := { name := "lawS0133ADispatch", fn := fun _ => fun
  | [d1, d2, d3, d4] => { results := [.lit (.bool false)], args := [d1, d2, d3, d4] }
  | _ => none }
def LawS0133ADispatchWrongFalsely : Prop := lawS0133ADispatchRow.holds Yba.pinned (OpenSpec.ofChange lawS0133ADispatchWrong)

/-- 'engine.LawS0133ABetter': WHATEVER THE INPUT: true; the input reads as it did. -/
def lawS0133ABetterSpec : ChangeSpec := { name := "lawS0133ABetter", fn := fun _ => fun
  | [d1, d2, d3] => { results := [.lit (.bool true)], args := [d1, d2, d3] }
  | _ => none }
def lawS0133ABetterRow : OpenClaim := { program := "ybulkbsq", sum := "18e2f4961d21d03c955560dcf816a6290669b3944edebe4c875b9d6506810ad1", func := "example.com/lockstep/lockstep/internal/engine.LawS0133ABetter", spec := "lawS0133ABetter", unfollowed := true, recurses := true, plainKeys := false, apart := false }
def LawS0133ABetterSaid : Prop := lawS0133ABetterRow.holds Yba.pinned (OpenSpec.ofChange lawS0133ABetterSpec)

/-- ITS FALSE NEIGHBOUR: 'it returns false'. Refute it at one input. -/
def lawS0133ABetterWrong : ChangeSpec := { name := "lawS0133ABetter", fn := fun _ => fun
  | [d1, d2, d3] => { results := [.lit (.bool false)], args := [d1, d2, d3] }
  | _ => none }
def LawS0133ABetterWrongFalsely : Prop := lawS0133ABetterRow.holds Yba.pinned (OpenSpec.ofChange lawS0133ABetterWrong)

/-- 'engine.LawS0133AGrouping': WHATEVER THE INPUT: true; the input reads as it did. -/
def lawS0133AGroupingSpec : ChangeSpec := { name := "lawS0133AGrouping", fn := fun _ => fun
  | [d1, d2, d3, d4] => { results := [.lit (.bool true)], args := [d1, d2, d3, d4] }
  | _ => none }
def lawS0133AGroupingRow : OpenClaim := { program := "ybulkbsq", sum := "18e2f4961d21d03c955560dcf816a6290669b3944edebe4c875b9d6506810ad1", func := "example.com/lockstep/lockstep/internal/engine.LawS0133AGrouping", spec := "lawS0133AGrouping", unfollowed := true, recurses := true, plainKeys := false, apart := false }
def LawS0133AGroupingSaid : Prop := lawS0133AGroupingRow.holds Yba.pinned (OpenSpec.ofChange lawS0133AGroupingSpec)

/-- ITS FALSE NEIGHBOUR: 'it returns false'. Refute it at one input. -/
def lawS0133AGroupingWrong : ChangeSpec := { name := "lawS0133AGrouping", fn := fun _ => fun
  | [d1, d2, d3, d4] => { results := [.lit (.bool false)], args := [d1, d2, d3, d4] }
  | _ => none }
def LawS0133AGroupingWrongFalsely : Prop := lawS0133AGroupingRow.holds Yba.pinned (OpenSpec.ofChange lawS0133AGroupingWrong)

/-- 'labels.LawS0133BLinear': WHATEVER THE INPUT: true; the input reads as it did. -/
def lawS0133BLinearSpec : ChangeSpec := { name := "lawS0133BLinear", fn := fun _ => fun
  | [d1, d2, d3] => { results := [.lit (.bool true)], args := [d1, d2, d3] }
  | _ => none }
def lawS0133BLinearRow : OpenClaim := { program := "ybulkbsq", sum := "18e2f4961d21d03c955560dcf816a6290669b3944edebe4c875b9d6506810ad1", func := "example.com/lockstep/lockstep/internal/labels.LawS0133BLinear", spec := "lawS0133BLinear", inPlace := ["internal/bytealg.abigen_runtime_cmpstring"], unfollowed := true, recurses := true, plainKeys := false, apart := false }
def LawS0133BLinearSaid : Prop := lawS0133BLinearRow.holds Yba.pinned (OpenSpec.ofChange lawS0133BLinearSpec)

/-- ITS FALSE NEIGHBOUR: 'it returns false'. Refute it at one input. -/
def lawS0133BLinearWrong : ChangeSpec := { name := "lawS0133BLinear", fn := fun _ => fun
  | [d1, d2, d3] => { results := [.lit (.bool false)], args := [d1, d2, d3] }
  | _ => none }
def LawS0133BLinearWrongFalsely : Prop := lawS0133BLinearRow.holds Yba.pinned (OpenSpec.ofChange lawS0133BLinearWrong)

end Rows
end Go.Proofs.Ybulkbsq
