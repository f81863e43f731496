/-
  No cell of these rows narrows 'for every input' (looked for: loops, veiled, ifaces, maps, wideKeys, modest, calm, conditions, laid).
  DERIVED. THE GIVEN ROWS OF THIS SEAT. 2 by the template 'for every input the law returns true; each argument reads behind the call as it read before'; 0 by the template 'total and deterministic' (their statements: YbulkbypsTotals.lean).
  GIVEN WITH THE SEED: the statements are not yours to turn. If you find one false, say at which input.
  Laid BY PROGRAM, IN A SANDBOX (cutbox-rows.mjs): the forced cells as the released guide's own fill.sh prints them over the translation 2dc079aa427945ff… (all of the seat's roots in one cut). By AI agents, Wed Nov 11 2026. No macro, syntax, notation, axiom, sorry.
-/
import Derived.Test.YbulkbypsChecked
import GoSem.Claim
import GoSem.ClaimJoined
import GoSem.ClaimMapViews
import Derived.JoinedTies
import Derived.KernelRfl
namespace Go.Proofs.Ybulkbyps
/- THE CELL 'sum', in the pinned program and in every row, IS THE sha256 OF THE DUMP (.gsa) THAT YbulkbypsProg.lean LOADS. Nothing in Lean hashes anything: it is a label: what it is worth is what the hold of that sum in a sandbox is worth. -/
noncomputable def Yba.pinned : Pinned := { name := "ybulkbyps", sum := "2dc079aa427945ff269084cf97b47a94973fd064382836bef7c843a6ad41e0a1", checked := Yba.checked }
namespace Rows
def none {H : Type} : Left H := { results := [], args := [] }

/-- 'plan.LawS3749BAll': WHATEVER THE INPUT: true; the input reads as it did. -/
def lawS3749BAllSpec : ChangeSpec := { name := "lawS3749BAll", fn := fun _ => fun
  | [d1, d2, d3] => { results := [.lit (.bool true)], args := [d1, d2, d3] }
  | _ => none }
def lawS3749BAllRow : OpenClaim := { program := "ybulkbyps", sum := "2dc079aa427945ff269084cf97b47a94973fd064382836bef7c843a6ad41e0a1", func := "example.com/parcelwire/parcelwire/internal/plan.LawS3749BAll", spec := "lawS3749BAll", unfollowed := true, recurses := true, plainKeys := false, apart := false }
def LawS3749BAllSaid : Prop := lawS3749BAllRow.holds Yba.pinned (OpenSpec.ofChange lawS3749BAllSpec)

/-- ITS FALSE NEIGHBOUR: 'it returns false'. Refute it at one input. -/
def lawS3749BAllWrong : ChangeSpec := { name := "lawS3749BAll", fn := fun _ => fun
  | [d1, d2, d3] => { results := [.lit (.bool false)], args := [d1, d2, d3] }
  | _ => none }
def LawS3749BAllWrongFalsely : Prop := lawS3749BAllRow.holds Yba.pinned (OpenSpec.ofChange lawS3749BAllWrong)

/-- 'plan.LawS3749BStop': WHATEVER THE INPUT: true; the input reads as it did. -/
def lawS3749BStopSpec : ChangeSpec := { name := "lawS3749BStop", fn := fun _ => fun
  | [d1, d2, d3] => { results := [.lit (.bool true)], args := [d1, d2, d3] }
  | _ => none }
def lawS3749BStopRow : OpenClaim := { program := "ybulkbyps", sum := "2dc079aa427945ff269084cf97b47a94973fd064382836bef7c843a6ad41e0a1", func := "example.com/parcelwire/parcelwire/internal/plan.LawS3749BStop", spec := "lawS3749BStop", unfollowed := true, recurses := true, plainKeys := false, apart := false }
def LawS3749BStopSaid : Prop := lawS3749BStopRow.holds Yba.pinned (OpenSpec.ofChange lawS3749BStopSpec)

/-- ITS FALSE NEIGHBOUR: 'it returns false'. Refute it at one input. -/
def lawS3749BStopWrong : ChangeSpec := { name := "lawS3749BStop", fn := fun _ => fun
  | [d1, d2, d3] => { results := [.lit (.bool false)], args := [d1, d2, d3] }
  | _ => none }
def LawS3749BStopWrongFalsely : Prop := lawS3749BStopRow.holds Yba.pinned (OpenSpec.ofChange lawS3749BStopWrong)

end Rows
end Go.Proofs.Ybulkbyps
