/-
  No cell of these rows narrows 'for every input' (looked for: loops, veiled, ifaces, maps, wideKeys, modest, calm, conditions, laid).
  DERIVED. THE GIVEN ROWS OF THIS SEAT. 1 by the template 'for every input the law returns true; each argument reads behind the call as it read before'; 0 by the template 'total and deterministic' (their statements: YbulkbypeTotals.lean).
  GIVEN WITH THE SEED: the statements are not yours to turn. If you find one false, say at which input.
  Laid BY PROGRAM, IN A SANDBOX (cutbox-rows.mjs): the forced cells as the released guide's own fill.sh prints them over the translation 5819546379ff2242… (all of the seat's roots in one cut). By AI agents, Wed Nov 11 2026. No macro, syntax, notation, axiom, sorry.
-/
import Derived.Test.YbulkbypeChecked
import GoSem.Claim
import GoSem.ClaimJoined
import GoSem.ClaimMapViews
import Derived.JoinedTies
import Derived.KernelRfl
namespace Go.Proofs.Ybulkbype
/- THE CELL 'sum', in the pinned program and in every row, IS THE sha256 OF THE DUMP (.gsa) THAT YbulkbypeProg.lean LOADS. Nothing in Lean hashes anything: it is a label: what it is worth is what the hold of that sum in a sandbox is worth. -/
noncomputable def Yba.pinned : Pinned := { name := "ybulkbype", sum := "5819546379ff2242adb76e76bc3e5313854214244c647ee680cb78cf959fbd0b", checked := Yba.checked }
namespace Rows
def none {H : Type} : Left H := { results := [], args := [] }

/-- 'portunus.LawS3748AFirst': WHATEVER THE INPUT: true; the input reads as it did. -/
def lawS3748AFirstSpec : ChangeSpec := { name := "lawS3748AFirst", fn := fun _ => fun
  | [d1, d2] => { results := [.lit (.bool true)], args := [d1, d2] }
  | _ => none }
def lawS3748AFirstRow : OpenClaim := { program := "ybulkbype", sum := "5819546379ff2242adb76e76bc3e5313854214244c647ee680cb78cf959fbd0b", func := "example.com/portunus/portunus.LawS3748AFirst", spec := "lawS3748AFirst", apart := false }
def LawS3748AFirstSaid : Prop := lawS3748AFirstRow.holds Yba.pinned (OpenSpec.ofChange lawS3748AFirstSpec)

/-- ITS FALSE NEIGHBOUR: 'it returns false'. Refute it at one input. -/
def lawS3748AFirstWrong : ChangeSpec := { name := "lawS3748AFirst", fn := fun _ => fun
  | [d1, d2] => { results := [.lit (.bool false)], args := [d1, d2] }
  | _ => none }
def LawS3748AFirstWrongFalsely : Prop := lawS3748AFirstRow.holds Yba.pinned (OpenSpec.ofChange lawS3748AFirstWrong)

end Rows
end Go.Proofs.Ybulkbype
