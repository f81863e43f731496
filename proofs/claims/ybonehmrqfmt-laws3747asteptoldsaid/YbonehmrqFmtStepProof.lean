/-
  THE TOLD CARD OF hauberk.LawS3747AStep, PROVED: the walk (YbonehmrqFmtStepWalk), lifted to the row's form and closed by the builder for told rows.
-/
import Derived.Test.YbonehmrqFmtStepWalk
import Derived.Stop.JoinedAt
import Derived.Stop.Texts
import Derived.Stop.JoinedTold
import Derived.SevenToldRow
import Derived.ShutString
import Derived.OpenShut
namespace Go.Proofs.YbonehmrqFmt
open Go.ChangeShapes Go.WideShapes Go.ChangeAt Go.RowKit
open Go.ChangeMaps (open_string shut_string)
open Go.Extern.Stop Go.Stop Go.Extern

theorem own : ownKnob Ybgs.prog.godebug = none := by kernel_rfl

set_option maxRecDepth 100000 in
theorem lifted (os : Os) (started : os.Started) (H : Type) (enc : TypeId × Value → H) :
    ReturnsInTold none {} Ybgs.checked os 3 .any Input.okWide ((OpenSpec.ofChange Rows.lawS3747AStepSpec).preRow enc Ybgs.prog Ybgs.f3 [] false []) (fun F => ((OpenSpec.ofChange Rows.lawS3747AStepSpec).at F).post enc Ybgs.prog Ybgs.f3 false true false false) (aloneAtReturn Ybgs.prog) nothingAlways := by
  refine returnsInTold_of_row (C := Ybgs.checked) (s := OpenSpec.ofChange Rows.lawS3747AStepSpec) (by kernel_rfl) own started (by kernel_rfl) Ybgs.func3
    (OpenSpec.witness_stopped (enc := enc) (C := Ybgs.checked) false ⟨#[], #[.int .i64 1, .int .i64 1, .int .i64 1, .string ⟨#[]⟩], []⟩ 8 (by kernel_rfl) (by kernel_rfl) (by kernel_rfl) (by kernel_rfl)) ?_
  intro F W base args ds gs before _ hF hval0 hW _ _ _ _ _
  have hval : ∀ (j : Nat) t v, Ybgs.f3.params[j]? = some t → args[j]? = some v → Value.okWide Ybgs.prog W .any base t v := hval0
  have hW' := hW
  obtain ⟨p, q, hA0, hV, rfl, hfz, hnd⟩ := hW
  have hA : DataW.TrodAll enc Ybgs.prog W 0 (fun _ => true) true Ybgs.f3.params.toList args.toList ds p := hA0
  rw [Ybgs.params3] at hA hval
  obtain ⟨v0, vs0, d0, ds0, p0, q0, hargs, rfl, rfl, h0, r0⟩ := trodAll_cons hA
  obtain ⟨v1, vs1, d1, ds1, p1, q1, rfl, rfl, rfl, h1, r1⟩ := trodAll_cons r0
  obtain ⟨v2, vs2, d2, ds2, p2, q2, rfl, rfl, rfl, h2, r2⟩ := trodAll_cons r1
  obtain ⟨v3, vs3, d3, ds3, p3, q3, rfl, rfl, rfl, h3, r3⟩ := trodAll_cons r2
  obtain ⟨rfl, rfl, rfl⟩ := trodAll_nil r3
  obtain rfl : args = #[v0, v1, v2, v3] := by cases args; simp_all
  obtain ⟨rfl, rfl⟩ := trodVars_none hV
  obtain ⟨a0, rfl, rfl, rfl, w0⟩ := open_int Ybgs.underlying3 (hval 0 3 v0 rfl rfl) h0
  obtain ⟨a1, rfl, rfl, rfl, w1⟩ := open_int Ybgs.underlying3 (hval 1 3 v1 rfl rfl) h1
  obtain ⟨a2, rfl, rfl, rfl, w2⟩ := open_int Ybgs.underlying3 (hval 2 3 v2 rfl rfl) h2
  obtain ⟨a3, rfl, rfl, rfl, w3⟩ := open_string Ybgs.underlying9 (hval 3 9 v3 rfl rfl) h3
  clear hA0 hval0
  have key : Calls Ybgs.prog 3 #[.int .i64 a0, .int .i64 a1, .int .i64 a2, .string a3] W fun e w' => e = .returned (.bool true) ∧ Grown W w' := by
    by_cases hn : wrap64 (a0 - a1) < 0
    · exact walk_neg F.told a0 a1 a2 a3 W hF hn
    · exact walk_pos a0 a1 a2 a3 W hn
  refine key.mono fun e W' ⟨he, hg⟩ => ?_
  subst he
  refine ⟨_, rfl, _, _, _, [], [], [], hW', ?_, ?_, rfl, hg.frame _, fun h => by cases h⟩
  · exact trodAll_cons_mk (shut_bool Ybgs.underlying4 _) trodAll_mk0
  · exact trodAll_cons_mk (shut_int Ybgs.underlying3 w0) (trodAll_cons_mk (shut_int Ybgs.underlying3 w1) (trodAll_cons_mk (shut_int Ybgs.underlying3 w2) (trodAll_cons_mk (shut_string Ybgs.underlying9 w3) trodAll_mk0)))

theorem laidOut : laidOutB Ybgs.pinned.checked.prog = true := by kernel_rfl
theorem stops : Ybgs.pinned.checked.prog.stops = ["fmt.errorf"] := by kernel_rfl
theorem stopKnobs : Ybgs.pinned.checked.prog.stopKnobs = [] := by kernel_rfl
theorem quiet (os : Os) : Stop.quiet Ybgs.pinned.checked.prog os := by
  intro k hk
  rw [stopKnobs] at hk
  cases hk

/-- THE STATEMENT. -/
theorem proved : Rows.LawS3747AStepToldSaid :=
  Claim7.holds_of_told_any 3 Ybgs.f3 "fmt.errorf" [] [] _ _ _ (by kernel_rfl) rfl rfl rfl laidOut (by kernel_rfl) rfl ⟨rfl, rfl, rfl, rfl, rfl, rfl, rfl⟩ rfl rfl (by kernel_rfl) (by kernel_rfl) Ybgs.func3 (by kernel_rfl)
    (of_decide_eq_true (by kernel_rfl)) (of_decide_eq_true (by kernel_rfl)) stops.symm rfl stopKnobs.symm (by kernel_rfl)
    (by kernel_rfl) (by kernel_rfl) (by kernel_rfl) (by kernel_rfl) (by kernel_rfl) (by kernel_rfl) (by kernel_rfl) (by kernel_rfl) (by kernel_rfl) rfl (by kernel_rfl) rfl rfl
    rfl rfl
    rfl (by kernel_rfl) (by kernel_rfl) (by kernel_rfl) (by decide) (by kernel_rfl)
    (OpenClaim.moreEntering_of (by kernel_rfl) (by kernel_rfl) (by kernel_rfl) (by kernel_rfl) (by kernel_rfl) (by kernel_rfl) (by kernel_rfl) (by kernel_rfl) (by kernel_rfl) (by kernel_rfl))
    ⟨_, WideRow.started_initial, quiet _⟩
    (fun os started _ H enc _ => lifted os started H enc)

#print axioms proved

end Go.Proofs.YbonehmrqFmt
