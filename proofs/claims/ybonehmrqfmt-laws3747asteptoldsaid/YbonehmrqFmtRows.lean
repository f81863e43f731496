/-
  No cell of these rows narrows 'for every input' (looked for: loops, veiled, ifaces, maps, wideKeys, modest, calm, conditions, laid).
  DERIVED. THE GIVEN ROWS OF THIS SEAT. 1 by the template 'for every input the law returns true; each argument reads behind the call as it read before'; 0 by the template 'total and deterministic' (their statements: YbonehmrqFmtTotals.lean).
  GIVEN WITH THE SEED: the statements are not yours to turn. If you find one false, say at which input.
  Laid BY PROGRAM, IN A SANDBOX (cutbox-rows.mjs): the forced cells as the released guide's own fill.sh prints them over the translation 134842b58da32a57… (all of the seat's roots in one cut). By AI agents, Wed Nov 11 2026. No macro, syntax, notation, axiom, sorry.
-/
import Derived.Test.YbonehmrqFmtChecked
import GoSem.Claim
import GoSem.ClaimJoined
import GoSem.ClaimMapViews
import Derived.JoinedTies
import Derived.KernelRfl
namespace Go.Proofs.YbonehmrqFmt
/- THE CELL 'sum', in the pinned program and in every row, IS THE sha256 OF THE DUMP (.gsa) THAT YbonehmrqFmtProg.lean LOADS. Nothing in Lean hashes anything: it is a label: what it is worth is what the hold of that sum in a sandbox is worth. -/
noncomputable def Ybgs.pinned : Pinned := { name := "ybonehmrqfmt", sum := "134842b58da32a57dd194a3616e4bdb0ff8f27f869f218e0901844146b65d03d", checked := Ybgs.checked }
namespace Rows
def none {H : Type} : Left H := { results := [], args := [] }

/-- 'hauberk.LawS3747AStep': WHATEVER THE INPUT: true; the input reads as it did. -/
def lawS3747AStepSpec : ChangeSpec := { name := "lawS3747AStep", fn := fun _ => fun
  | [d1, d2, d3, d4] => { results := [.lit (.bool true)], args := [d1, d2, d3, d4] }
  | _ => none }
def lawS3747AStepRow : OpenClaim := { program := "ybonehmrqfmt", sum := "134842b58da32a57dd194a3616e4bdb0ff8f27f869f218e0901844146b65d03d", func := "example.com/hauberk/hauberk.LawS3747AStep", spec := "lawS3747AStep", stops := ["fmt.errorf"], inPlace := ["fmt.errorf"], plainKeys := false, apart := false }
/-- NO THEOREM (fmt's text is open here; it may be false): for the released tool's asking of the row's closed facts alone. THE STATEMENT IS 'LawS3747AStepToldSaid' (YbonehmrqFmtCards.lean). -/
def LawS3747AStepFormAsk : Prop := lawS3747AStepRow.holds Ybgs.pinned (OpenSpec.ofChange lawS3747AStepSpec)

/-- ITS FALSE NEIGHBOUR: 'it returns false'. Refute it at one input. -/
def lawS3747AStepWrong : ChangeSpec := { name := "lawS3747AStep", fn := fun _ => fun
  | [d1, d2, d3, d4] => { results := [.lit (.bool false)], args := [d1, d2, d3, d4] }
  | _ => none }
def LawS3747AStepWrongFormAsk : Prop := lawS3747AStepRow.holds Ybgs.pinned (OpenSpec.ofChange lawS3747AStepWrong)

end Rows
end Go.Proofs.YbonehmrqFmt
