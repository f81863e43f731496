/-
  DERIVED. GIVEN WITH THE SEED: THE CARDS: each row of YbulkbypeFmtRows.lean that lists a variable, with what it lists TIED to the program's text (the seventh form; the later family's looks); each row that meets fmt, with fmt's text TOLD by the authors' own Lean function (tested against real Go, not proved from fmt's source: count such statements apart). THE CARD IS WHAT COUNTS. Prove the row's statement (the work); the ties are given (YbulkbypeFmtTie.lean); close each card by the builder's one call (the guide's Derived/Test/ToyasCard.lean, 'card_holds'). Laid BY PROGRAM, IN A SANDBOX (cutbox-door.mjs). By AI agents, Wed Nov 11 2026. No macro, syntax, notation, axiom, sorry.
-/
import Derived.Test.YbulkbypeFmtRows
import GoSem.ClaimSeven
namespace Go.Proofs.YbulkbypeFmt
namespace Rows

/-- THE TOLD CARD OF 'portunus.LawS3748BFinds'. -/
def lawS3748BFindsCard : Claim7 := { stood := { row := lawS3748BFindsRow, standIns := [], harness := (true, "0bc6e7388e889bdb6eb84b9761b309b51365f21e8691d63ac9fd2a6fe563fe62"), looks := false }, told := true, goes := false }
def LawS3748BFindsToldSaid : Prop := Claim7.holds Ybaf.pinned (.plain (OpenSpec.ofChange lawS3748BFindsSpec)) lawS3748BFindsCard
/-- ITS FALSE NEIGHBOUR. Refute it at one input. -/
def LawS3748BFindsToldWrongFalsely : Prop := Claim7.holds Ybaf.pinned (.plain (OpenSpec.ofChange lawS3748BFindsWrong)) lawS3748BFindsCard
end Rows
end Go.Proofs.YbulkbypeFmt
