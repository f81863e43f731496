/-
  DERIVED. GIVEN WITH THE SEED: THE CARDS: each row of YbonehmrrFmtRows.lean that lists a variable, with what it lists TIED to the program's text (the seventh form; the later family's looks); each row that meets fmt, with fmt's text TOLD by the authors' own Lean function (tested against real Go, not proved from fmt's source: count such statements apart). THE CARD IS WHAT COUNTS. Prove the row's statement (the work); the ties are given (YbonehmrrFmtTie.lean); close each card by the builder's one call (the guide's Derived/Test/ToyasCard.lean, 'card_holds'). Laid BY PROGRAM, IN A SANDBOX (cutbox-door.mjs). By AI agents, Wed Nov 11 2026. No macro, syntax, notation, axiom, sorry.
-/
import Derived.Test.YbonehmrrFmtRows
import GoSem.ClaimSeven
namespace Go.Proofs.YbonehmrrFmt
namespace Rows

/-- THE TOLD CARD OF 'hauberk.LawS3747ABudget'. -/
def lawS3747ABudgetCard : Claim7 := { stood := { row := lawS3747ABudgetRow, standIns := [], harness := (true, "cfb4e505e44f56f1688e18b00b1618b58ad37d0d2ada7a697d44caee4299133c"), looks := false }, told := true, goes := false }
def LawS3747ABudgetToldSaid : Prop := Claim7.holds Ybgt.pinned (.plain (OpenSpec.ofChange lawS3747ABudgetSpec)) lawS3747ABudgetCard
/-- ITS FALSE NEIGHBOUR. Refute it at one input. -/
def LawS3747ABudgetToldWrongFalsely : Prop := Claim7.holds Ybgt.pinned (.plain (OpenSpec.ofChange lawS3747ABudgetWrong)) lawS3747ABudgetCard
end Rows
end Go.Proofs.YbonehmrrFmt
