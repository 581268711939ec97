/-
  No cell of these rows narrows 'for every input' (looked for: loops, veiled, ifaces, maps, wideKeys, modest, calm, conditions, laid).
  DERIVED. THE GIVEN ROWS OF THIS SEAT. 1 by the template 'for every input the law returns true; each argument reads behind the call as it read before'; 0 by the template 'total and deterministic' (their statements: YbulkbsqFmtTotals.lean).
  GIVEN WITH THE SEED: the statements are not yours to turn. If you find one false, say at which input.
  Laid BY PROGRAM, IN A SANDBOX (cutbox-rows.mjs): the forced cells as the released guide's own fill.sh prints them over the translation 6dc4ebd3a3196cda… (all of the seat's roots in one cut). By AI agents, Wed Nov 11 2026. No macro, syntax, notation, axiom, sorry.
-/
import Derived.Test.YbulkbsqFmtChecked
import GoSem.Claim
import GoSem.ClaimJoined
import GoSem.ClaimMapViews
import Derived.JoinedTies
import Derived.KernelRfl
namespace Go.Proofs.YbulkbsqFmt
/- THE CELL 'sum', in the pinned program and in every row, IS THE sha256 OF THE DUMP (.gsa) THAT YbulkbsqFmtProg.lean LOADS. Nothing in Lean hashes anything: it is a label: what it is worth is what the hold of that sum in a sandbox is worth. -/
noncomputable def Ybaf.pinned : Pinned := { name := "ybulkbsqfmt", sum := "6dc4ebd3a3196cdad70169cadf7b7931fc9f06172566efb5e494787cffda7732", checked := Ybaf.checked }
namespace Rows
def none {H : Type} : Left H := { results := [], args := [] }

/-- 'labels.LawS0133BNew': WHATEVER THE INPUT: true; the input reads as it did. -/
def lawS0133BNewSpec : ChangeSpec := { name := "lawS0133BNew", fn := fun _ => fun
  | [d1, d2, d3] => { results := [.lit (.bool true)], args := [d1, d2, d3] }
  | _ => none }
def lawS0133BNewRow : OpenClaim := { program := "ybulkbsqfmt", sum := "6dc4ebd3a3196cdad70169cadf7b7931fc9f06172566efb5e494787cffda7732", func := "example.com/lockstep/lockstep/internal/labels.LawS0133BNew", spec := "lawS0133BNew", stops := ["fmt.errorf"], inPlace := ["internal/bytealg.abigen_runtime_cmpstring", "fmt.errorf"], unfollowed := true, recurses := true, apart := false }
/-- NO THEOREM (fmt's text is open here; it may be false): for the released tool's asking of the row's closed facts alone. THE STATEMENT IS 'LawS0133BNewToldSaid' (YbulkbsqFmtCards.lean). -/
def LawS0133BNewFormAsk : Prop := lawS0133BNewRow.holds Ybaf.pinned (OpenSpec.ofChange lawS0133BNewSpec)

/-- ITS FALSE NEIGHBOUR: 'it returns false'. Refute it at one input. -/
def lawS0133BNewWrong : ChangeSpec := { name := "lawS0133BNew", fn := fun _ => fun
  | [d1, d2, d3] => { results := [.lit (.bool false)], args := [d1, d2, d3] }
  | _ => none }
def LawS0133BNewWrongFormAsk : Prop := lawS0133BNewRow.holds Ybaf.pinned (OpenSpec.ofChange lawS0133BNewWrong)

end Rows
end Go.Proofs.YbulkbsqFmt
