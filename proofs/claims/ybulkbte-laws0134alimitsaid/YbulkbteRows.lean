/-
  No cell of these rows narrows 'for every input' (looked for: loops, veiled, ifaces, maps, wideKeys, modest, calm, conditions, laid).
  DERIVED. THE GIVEN ROWS OF THIS SEAT. 4 by the template 'for every input the law returns true; each argument reads behind the call as it read before'; 0 by the template 'total and deterministic' (their statements: YbulkbteTotals.lean).
  GIVEN WITH THE SEED: the statements are not yours to turn. If you find one false, say at which input.
  Laid BY PROGRAM, IN A SANDBOX (cutbox-rows.mjs): the forced cells as the released guide's own fill.sh prints them over the translation cfee8e759bd3e7a8… (all of the seat's roots in one cut). By AI agents, Wed Nov 11 2026. No macro, syntax, notation, axiom, sorry.
-/
import Derived.Test.YbulkbteChecked
import GoSem.Claim
import GoSem.ClaimJoined
import GoSem.ClaimMapViews
import Derived.JoinedTies
import Derived.KernelRfl
namespace Go.Proofs.Ybulkbte
/- THE CELL 'sum', in the pinned program and in every row, IS THE sha256 OF THE DUMP (.gsa) THAT YbulkbteProg.lean LOADS. Nothing in Lean hashes anything: it is a label: what it is worth is what the hold of that sum in a sandbox is worth. -/
noncomputable def Yba.pinned : Pinned := { name := "ybulkbte", sum := "cfee8e759bd3e7a8dd13fdf2d49ba9f2df85e3dc3518d52b434ba348090ba13c", checked := Yba.checked }
namespace Rows
def none {H : Type} : Left H := { results := [], args := [] }

/-- 'rpsl.LawS0134AUnlimited': WHATEVER THE INPUT: true; the input reads as it did. -/
def lawS0134AUnlimitedSpec : ChangeSpec := { name := "lawS0134AUnlimited", fn := fun _ => fun
  | [d1, d2, d3, d4, d5] => { results := [.lit (.bool true)], args := [d1, d2, d3, d4, d5] }
  | _ => none }
def lawS0134AUnlimitedRow : OpenClaim := { program := "ybulkbte", sum := "cfee8e759bd3e7a8dd13fdf2d49ba9f2df85e3dc3518d52b434ba348090ba13c", func := "example.com/becalmed-routes/becalmed-routes/rpsl.LawS0134AUnlimited", spec := "lawS0134AUnlimited", recurses := true, apart := false }
def LawS0134AUnlimitedSaid : Prop := lawS0134AUnlimitedRow.holds Yba.pinned (OpenSpec.ofChange lawS0134AUnlimitedSpec)

/-- ITS FALSE NEIGHBOUR: 'it returns false'. Refute it at one input. -/
def lawS0134AUnlimitedWrong : ChangeSpec := { name := "lawS0134AUnlimited", fn := fun _ => fun
  | [d1, d2, d3, d4, d5] => { results := [.lit (.bool false)], args := [d1, d2, d3, d4, d5] }
  | _ => none }
def LawS0134AUnlimitedWrongFalsely : Prop := lawS0134AUnlimitedRow.holds Yba.pinned (OpenSpec.ofChange lawS0134AUnlimitedWrong)

/-- 'rpsl.LawS0134ALimit': WHATEVER THE INPUT: true; the input reads as it did. -/
def lawS0134ALimitSpec : ChangeSpec := { name := "lawS0134ALimit", fn := fun _ => fun
  | [d1, d2, d3, d4, d5] => { results := [.lit (.bool true)], args := [d1, d2, d3, d4, d5] }
  | _ => none }
def lawS0134ALimitRow : OpenClaim := { program := "ybulkbte", sum := "cfee8e759bd3e7a8dd13fdf2d49ba9f2df85e3dc3518d52b434ba348090ba13c", func := "example.com/becalmed-routes/becalmed-routes/rpsl.LawS0134ALimit", spec := "lawS0134ALimit", recurses := true, apart := false }
def LawS0134ALimitSaid : Prop := lawS0134ALimitRow.holds Yba.pinned (OpenSpec.ofChange lawS0134ALimitSpec)

/-- ITS FALSE NEIGHBOUR: 'it returns false'. Refute it at one input. -/
def lawS0134ALimitWrong : ChangeSpec := { name := "lawS0134ALimit", fn := fun _ => fun
  | [d1, d2, d3, d4, d5] => { results := [.lit (.bool false)], args := [d1, d2, d3, d4, d5] }
  | _ => none }
def LawS0134ALimitWrongFalsely : Prop := lawS0134ALimitRow.holds Yba.pinned (OpenSpec.ofChange lawS0134ALimitWrong)

/-- 'propagate.LawS0134CPrepends': WHATEVER THE INPUT: true; the input reads as it did. -/
def lawS0134CPrependsSpec : ChangeSpec := { name := "lawS0134CPrepends", fn := fun _ => fun
  | [d1, d2, d3, d4] => { results := [.lit (.bool true)], args := [d1, d2, d3, d4] }
  | _ => none }
def lawS0134CPrependsRow : OpenClaim := { program := "ybulkbte", sum := "cfee8e759bd3e7a8dd13fdf2d49ba9f2df85e3dc3518d52b434ba348090ba13c", func := "example.com/becalmed-routes/becalmed-routes/internal/propagate.LawS0134CPrepends", spec := "lawS0134CPrepends", apart := false }
def LawS0134CPrependsSaid : Prop := lawS0134CPrependsRow.holds Yba.pinned (OpenSpec.ofChange lawS0134CPrependsSpec)

/-- ITS FALSE NEIGHBOUR: 'it returns false'. Refute it at one input. -/
def lawS0134CPrependsWrong : ChangeSpec := { name := "lawS0134CPrepends", fn := fun _ => fun
  | [d1, d2, d3, d4] => { results := [.lit (.bool false)], args := [d1, d2, d3, d4] }
  | _ => none }
def LawS0134CPrependsWrongFalsely : Prop := lawS0134CPrependsRow.holds Yba.pinned (OpenSpec.ofChange lawS0134CPrependsWrong)

/-- 'propagate.LawS0134CFresh': WHATEVER THE INPUT: true; the input reads as it did. -/
def lawS0134CFreshSpec : ChangeSpec := { name := "lawS0134CFresh", fn := fun _ => fun
  | [d1, d2, d3, d4] => { results := [.lit (.bool true)], args := [d1, d2, d3, d4] }
  | _ => none }
def lawS0134CFreshRow : OpenClaim := { program := "ybulkbte", sum := "cfee8e759bd3e7a8dd13fdf2d49ba9f2df85e3dc3518d52b434ba348090ba13c", func := "example.com/becalmed-routes/becalmed-routes/internal/propagate.LawS0134CFresh", spec := "lawS0134CFresh", apart := false }
def LawS0134CFreshSaid : Prop := lawS0134CFreshRow.holds Yba.pinned (OpenSpec.ofChange lawS0134CFreshSpec)

/-- ITS FALSE NEIGHBOUR: 'it returns false'. Refute it at one input. -/
def lawS0134CFreshWrong : ChangeSpec := { name := "lawS0134CFresh", fn := fun _ => fun
  | [d1, d2, d3, d4] => { results := [.lit (.bool false)], args := [d1, d2, d3, d4] }
  | _ => none }
def LawS0134CFreshWrongFalsely : Prop := lawS0134CFreshRow.holds Yba.pinned (OpenSpec.ofChange lawS0134CFreshWrong)

end Rows
end Go.Proofs.Ybulkbte
