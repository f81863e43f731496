/-
  No cell of these rows narrows 'for every input' (looked for: loops, veiled, ifaces, maps, wideKeys, modest, calm, conditions, laid).
  DERIVED. THE GIVEN ROWS OF THIS SEAT. 1 by the template 'for every input the law returns true; each argument reads behind the call as it read before'; 0 by the template 'total and deterministic' (their statements: YbonehmrrFmtTotals.lean).
  GIVEN WITH THE SEED: the statements are not yours to turn. If you find one false, say at which input.
  Laid BY PROGRAM, IN A SANDBOX (cutbox-rows.mjs): the forced cells as the released guide's own fill.sh prints them over the translation 89dbe0aa577142ec… (all of the seat's roots in one cut). By AI agents, Wed Nov 11 2026. No macro, syntax, notation, axiom, sorry.
-/
import Derived.Test.YbonehmrrFmtChecked
import GoSem.Claim
import GoSem.ClaimJoined
import GoSem.ClaimMapViews
import Derived.JoinedTies
import Derived.KernelRfl
namespace Go.Proofs.YbonehmrrFmt
/- THE CELL 'sum', in the pinned program and in every row, IS THE sha256 OF THE DUMP (.gsa) THAT YbonehmrrFmtProg.lean LOADS. Nothing in Lean hashes anything: it is a label: what it is worth is what the hold of that sum in a sandbox is worth. -/
noncomputable def Ybgt.pinned : Pinned := { name := "ybonehmrrfmt", sum := "89dbe0aa577142ec9da1b3dcbd5a0edd349ffbc337e2b14957fbb678edd42c65", checked := Ybgt.checked }
namespace Rows
def none {H : Type} : Left H := { results := [], args := [] }

/-- 'hauberk.LawS3747ABudget': WHATEVER THE INPUT: true; the input reads as it did. -/
def lawS3747ABudgetSpec : ChangeSpec := { name := "lawS3747ABudget", fn := fun _ => fun
  | [d] => { results := [.lit (.bool true)], args := [d] }
  | _ => none }
def lawS3747ABudgetRow : OpenClaim := { program := "ybonehmrrfmt", sum := "89dbe0aa577142ec9da1b3dcbd5a0edd349ffbc337e2b14957fbb678edd42c65", func := "example.com/hauberk/hauberk.LawS3747ABudget", spec := "lawS3747ABudget", stops := ["fmt.errorf"], inPlace := ["fmt.errorf"], plainKeys := false, apart := false }
/-- NO THEOREM (fmt's text is open here; it may be false): for the released tool's asking of the row's closed facts alone. THE STATEMENT IS 'LawS3747ABudgetToldSaid' (YbonehmrrFmtCards.lean). -/
def LawS3747ABudgetFormAsk : Prop := lawS3747ABudgetRow.holds Ybgt.pinned (OpenSpec.ofChange lawS3747ABudgetSpec)

/-- ITS FALSE NEIGHBOUR: 'it returns false'. Refute it at one input. -/
def lawS3747ABudgetWrong : ChangeSpec := { name := "lawS3747ABudget", fn := fun _ => fun
  | [d] => { results := [.lit (.bool false)], args := [d] }
  | _ => none }
def LawS3747ABudgetWrongFormAsk : Prop := lawS3747ABudgetRow.holds Ybgt.pinned (OpenSpec.ofChange lawS3747ABudgetWrong)

end Rows
end Go.Proofs.YbonehmrrFmt
