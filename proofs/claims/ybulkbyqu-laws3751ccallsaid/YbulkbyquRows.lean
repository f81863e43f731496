/-
  No cell of these rows narrows 'for every input' (looked for: loops, veiled, ifaces, maps, wideKeys, modest, calm, conditions, laid).
  DERIVED. THE GIVEN ROWS OF THIS SEAT. 1 by the template 'for every input the law returns true; each argument reads behind the call as it read before'; 0 by the template 'total and deterministic' (their statements: YbulkbyquTotals.lean).
  GIVEN WITH THE SEED: the statements are not yours to turn. If you find one false, say at which input.
  Laid BY PROGRAM, IN A SANDBOX (cutbox-rows.mjs): the forced cells as the released guide's own fill.sh prints them over the translation 4b744c284d4e5cc3… (all of the seat's roots in one cut). By AI agents, Wed Nov 11 2026. No macro, syntax, notation, axiom, sorry.
-/
import Derived.Test.YbulkbyquChecked
import GoSem.Claim
import GoSem.ClaimJoined
import GoSem.ClaimMapViews
import Derived.JoinedTies
import Derived.KernelRfl
namespace Go.Proofs.Ybulkbyqu
/- THE CELL 'sum', in the pinned program and in every row, IS THE sha256 OF THE DUMP (.gsa) THAT YbulkbyquProg.lean LOADS. Nothing in Lean hashes anything: it is a label: what it is worth is what the hold of that sum in a sandbox is worth. -/
noncomputable def Yba.pinned : Pinned := { name := "ybulkbyqu", sum := "4b744c284d4e5cc3abfbb5f666b5bf18de9046c1cc743d477fb1d48adb575500", checked := Yba.checked }
namespace Rows
def none {H : Type} : Left H := { results := [], args := [] }

/-- 'cistern.LawS3751CCall': WHATEVER THE INPUT: true; the input reads as it did. -/
def lawS3751CCallSpec : ChangeSpec := { name := "lawS3751CCall", fn := fun _ => fun
  | [d1, d2, d3, d4] => { results := [.lit (.bool true)], args := [d1, d2, d3, d4] }
  | _ => none }
def lawS3751CCallRow : OpenClaim := { program := "ybulkbyqu", sum := "4b744c284d4e5cc3abfbb5f666b5bf18de9046c1cc743d477fb1d48adb575500", func := "example.com/cistern/cistern.LawS3751CCall", spec := "lawS3751CCall", unfollowed := true, recurses := true, apart := false }
def LawS3751CCallSaid : Prop := lawS3751CCallRow.holds Yba.pinned (OpenSpec.ofChange lawS3751CCallSpec)

/-- ITS FALSE NEIGHBOUR: 'it returns false'. Refute it at one input. -/
def lawS3751CCallWrong : ChangeSpec := { name := "lawS3751CCall", fn := fun _ => fun
  | [d1, d2, d3, d4] => { results := [.lit (.bool false)], args := [d1, d2, d3, d4] }
  | _ => none }
def LawS3751CCallWrongFalsely : Prop := lawS3751CCallRow.holds Yba.pinned (OpenSpec.ofChange lawS3751CCallWrong)

end Rows
end Go.Proofs.Ybulkbyqu
