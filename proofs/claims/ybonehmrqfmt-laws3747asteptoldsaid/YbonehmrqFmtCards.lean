/-
  DERIVED. GIVEN WITH THE SEED: THE CARDS: each row of YbonehmrqFmtRows.lean that lists a variable, with what it lists TIED to the program's text (the seventh form; the later family's looks); each row that meets fmt, with fmt's text TOLD by the authors' own Lean function (tested against real Go, not proved from fmt's source: count such statements apart). THE CARD IS WHAT COUNTS. Prove the row's statement (the work); the ties are given (YbonehmrqFmtTie.lean); close each card by the builder's one call (the guide's Derived/Test/ToyasCard.lean, 'card_holds'). Laid BY PROGRAM, IN A SANDBOX (cutbox-door.mjs). By AI agents, Wed Nov 11 2026. No macro, syntax, notation, axiom, sorry.
-/
import Derived.Test.YbonehmrqFmtRows
import GoSem.ClaimSeven
namespace Go.Proofs.YbonehmrqFmt
namespace Rows

/-- THE TOLD CARD OF 'hauberk.LawS3747AStep'. -/
def lawS3747AStepCard : Claim7 := { stood := { row := lawS3747AStepRow, standIns := [], harness := (true, "9d208e41f1cb860aa8f5911adb744abe253168a160cb03caf30fe3362f64d45b"), looks := false }, told := true, goes := false }
def LawS3747AStepToldSaid : Prop := Claim7.holds Ybgs.pinned (.plain (OpenSpec.ofChange lawS3747AStepSpec)) lawS3747AStepCard
/-- ITS FALSE NEIGHBOUR. Refute it at one input. -/
def LawS3747AStepToldWrongFalsely : Prop := Claim7.holds Ybgs.pinned (.plain (OpenSpec.ofChange lawS3747AStepWrong)) lawS3747AStepCard
end Rows
end Go.Proofs.YbonehmrqFmt
