/-
  DERIVED. GIVEN WITH THE SEED: THE CARDS: each row of YbulkbsqFmtRows.lean that lists a variable, with what it lists TIED to the program's text (the seventh form; the later family's looks); each row that meets fmt, with fmt's text TOLD by the authors' own Lean function (tested against real Go, not proved from fmt's source: count such statements apart). THE CARD IS WHAT COUNTS. Prove the row's statement (the work); the ties are given (YbulkbsqFmtTie.lean); close each card by the builder's one call (the guide's Derived/Test/ToyasCard.lean, 'card_holds'). Laid BY PROGRAM, IN A SANDBOX (cutbox-door.mjs). By AI agents, Wed Nov 11 2026. No macro, syntax, notation, axiom, sorry.
-/
import Derived.Test.YbulkbsqFmtRows
import GoSem.ClaimSeven
namespace Go.Proofs.YbulkbsqFmt
namespace Rows

/-- THE TOLD CARD OF 'labels.LawS0133BNew'. -/
def lawS0133BNewCard : Claim7 := { stood := { row := lawS0133BNewRow, standIns := [], harness := (true, "ddc3c6f87ce8739f83c84265e0dab40bf3e812cd3f196484c90b8d67475a6f96"), looks := false }, told := true, goes := false }
def LawS0133BNewToldSaid : Prop := Claim7.holds Ybaf.pinned (.plain (OpenSpec.ofChange lawS0133BNewSpec)) lawS0133BNewCard
/-- ITS FALSE NEIGHBOUR. Refute it at one input. -/
def LawS0133BNewToldWrongFalsely : Prop := Claim7.holds Ybaf.pinned (.plain (OpenSpec.ofChange lawS0133BNewWrong)) lawS0133BNewCard
end Rows
end Go.Proofs.YbulkbsqFmt
