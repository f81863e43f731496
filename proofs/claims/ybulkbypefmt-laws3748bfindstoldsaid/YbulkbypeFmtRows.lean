/-
  No cell of these rows narrows 'for every input' (looked for: loops, veiled, ifaces, maps, wideKeys, modest, calm, conditions, laid).
  DERIVED. THE GIVEN ROWS OF THIS SEAT. 1 by the template 'for every input the law returns true; each argument reads behind the call as it read before'; 0 by the template 'total and deterministic' (their statements: YbulkbypeFmtTotals.lean).
  GIVEN WITH THE SEED: the statements are not yours to turn. If you find one false, say at which input.
  Laid BY PROGRAM, IN A SANDBOX (cutbox-rows.mjs): the forced cells as the released guide's own fill.sh prints them over the translation 5825975aba60b9ff… (all of the seat's roots in one cut). By AI agents, Wed Nov 11 2026. No macro, syntax, notation, axiom, sorry.
-/
import Derived.Test.YbulkbypeFmtChecked
import GoSem.Claim
import GoSem.ClaimJoined
import GoSem.ClaimMapViews
import Derived.JoinedTies
import Derived.KernelRfl
namespace Go.Proofs.YbulkbypeFmt
/- THE CELL 'sum', in the pinned program and in every row, IS THE sha256 OF THE DUMP (.gsa) THAT YbulkbypeFmtProg.lean LOADS. Nothing in Lean hashes anything: it is a label: what it is worth is what the hold of that sum in a sandbox is worth. -/
noncomputable def Ybaf.pinned : Pinned := { name := "ybulkbypefmt", sum := "5825975aba60b9fffd852fba4c333c206029797da010d80324cf2427cc57a2c0", checked := Ybaf.checked }
namespace Rows
def none {H : Type} : Left H := { results := [], args := [] }

/-- 'portunus.LawS3748BFinds': WHATEVER THE INPUT: true; the input reads as it did. -/
def lawS3748BFindsSpec : ChangeSpec := { name := "lawS3748BFinds", fn := fun _ => fun
  | [d1, d2, d3, d4, d5, d6, d7] => { results := [.lit (.bool true)], args := [d1, d2, d3, d4, d5, d6, d7] }
  | _ => none }
def lawS3748BFindsRow : OpenClaim := { program := "ybulkbypefmt", sum := "5825975aba60b9fffd852fba4c333c206029797da010d80324cf2427cc57a2c0", func := "example.com/portunus/portunus.LawS3748BFinds", spec := "lawS3748BFinds", stops := ["fmt.errorf"], inPlace := ["fmt.errorf"], apart := false }
/-- NO THEOREM (fmt's text is open here; it may be false): for the released tool's asking of the row's closed facts alone. THE STATEMENT IS 'LawS3748BFindsToldSaid' (YbulkbypeFmtCards.lean). -/
def LawS3748BFindsFormAsk : Prop := lawS3748BFindsRow.holds Ybaf.pinned (OpenSpec.ofChange lawS3748BFindsSpec)

/-- ITS FALSE NEIGHBOUR: 'it returns false'. Refute it at one input. -/
def lawS3748BFindsWrong : ChangeSpec := { name := "lawS3748BFinds", fn := fun _ => fun
  | [d1, d2, d3, d4, d5, d6, d7] => { results := [.lit (.bool false)], args := [d1, d2, d3, d4, d5, d6, d7] }
  | _ => none }
def LawS3748BFindsWrongFormAsk : Prop := lawS3748BFindsRow.holds Ybaf.pinned (OpenSpec.ofChange lawS3748BFindsWrong)

end Rows
end Go.Proofs.YbulkbypeFmt
