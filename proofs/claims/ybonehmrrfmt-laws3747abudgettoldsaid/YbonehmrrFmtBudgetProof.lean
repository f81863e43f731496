/-
  THE TOLD CARD OF hauberk.LawS3747ABudget, PROVED: the walk (YbonehmrrFmtBudgetWalk), lifted to the row's form and closed by the builder for told rows.
-/
import Derived.Test.YbonehmrrFmtBudgetWalk
import Derived.Stop.JoinedAt
import Derived.Stop.Texts
import Derived.Stop.JoinedTold
import Derived.SevenToldRow
import Derived.ShutString
import Derived.OpenShut
import Derived.ChangeOld
import Derived.Below
namespace Go.Proofs.YbonehmrrFmt
open Go.ChangeShapes Go.WideShapes Go.ChangeAt Go.RowKit
open Go.ChangeMaps (open_string shut_string)
open Go.Extern.Stop Go.Stop Go.Extern

theorem own : ownKnob Ybgt.prog.godebug = none := by kernel_rfl
theorem laidOutP : laidOutB Ybgt.prog = true := by kernel_rfl

theorem walk (F : Interp) (a0 : Option Addr) (len cap : Nat) (zs : List Int) (w : World) (hF : F.answers w.tape)
    (hr : (a0 = none ∧ len = 0 ∧ cap = 0 ∧ zs = []) ∨ ∃ x, a0 = some x ∧ len ≤ cap ∧ cap ≤ maxLen ∧ zs.length = cap ∧ (∀ i, i < zs.length → w.cell? (x.add i) = some (.int .u32 (zs.getD i 0))) ∧ ∀ n ∈ zs, (Lit.int .u32 n).wf = true) :
    Calls Ybgt.prog 3 #[.slice a0 len cap] w fun e w' => e = .returned (.bool true) ∧ Below w.heap.size w w' := by
  rcases hr with ⟨rfl, rfl, rfl, rfl⟩ | ⟨x, rfl, hl, hm, hz, hc, hw⟩
  · exact walk_short F none 0 0 [] w hF (by omega) (fun k => by simp) (fun k hk => by omega)
  · by_cases h : 1024 < len
    · exact walk_long _ _ _ w h (by omega)
    · refine walk_short F (some x) len cap zs w hF (by omega) (fun k => ?_) (fun k hk => ?_)
      · by_cases hk : k < zs.length
        · have := hw zs[k] (List.getElem_mem hk)
          simp [Lit.wf, IntKind.min, IntKind.max, IntKind.signed, IntKind.bits] at this
          simp [hk]; omega
        · simp [List.getElem?_eq_none (by omega : zs.length ≤ k)]
      · obtain ⟨b, off, rfl, hcc⟩ := ints_at hc (by omega)
        have h2 := hcc k (by omega)
        rw [List.getD_eq_getElem?_getD] at h2
        exact ⟨b, off, rfl, World.block_lt_of_cell? _ _ h2, h2⟩

set_option maxRecDepth 100000 in
theorem lifted (os : Os) (started : os.Started) (H : Type) (enc : TypeId × Value → H) :
    ReturnsInTold none {} Ybgt.checked os 3 .any Input.okWide ((OpenSpec.ofChange Rows.lawS3747ABudgetSpec).preRow enc Ybgt.prog Ybgt.f3 [] false []) (fun F => ((OpenSpec.ofChange Rows.lawS3747ABudgetSpec).at F).post enc Ybgt.prog Ybgt.f3 false true false false) (aloneAtReturn Ybgt.prog) nothingAlways := by
  refine returnsInTold_of_row (C := Ybgt.checked) (s := OpenSpec.ofChange Rows.lawS3747ABudgetSpec) (by kernel_rfl) own started (by kernel_rfl) Ybgt.func3
    (OpenSpec.witness_stopped (enc := enc) (C := Ybgt.checked) false ⟨#[], #[.slice none 0 0], []⟩ 8 (by kernel_rfl) (by kernel_rfl) (by kernel_rfl) (by kernel_rfl)) ?_
  intro F W base args ds gs before _ hF hval0 hW _ _ _ _ _
  have hval : ∀ (j : Nat) t v, Ybgt.f3.params[j]? = some t → args[j]? = some v → Value.okWide Ybgt.prog W .any base t v := hval0
  have hW' := hW
  obtain ⟨p, q, hA0, hV, rfl, hfz, hnd⟩ := hW
  have hA : DataW.TrodAll enc Ybgt.prog W 0 (fun _ => true) true Ybgt.f3.params.toList args.toList ds p := hA0
  rw [Ybgt.params3] at hA hval
  obtain ⟨v0, vs0, d0, ds0, p0, q0, hargs, rfl, rfl, h0, r0⟩ := trodAll_cons hA
  obtain ⟨rfl, rfl, rfl⟩ := trodAll_nil r0
  obtain rfl : args = #[v0] := by cases args; simp_all
  obtain ⟨rfl, rfl⟩ := trodVars_none hV
  obtain ⟨a0, len0, cap0, rfl⟩ := okWide_slice Ybgt.underlying22 (hval 0 22 v0 rfl rfl)
  have k0 := h0
  have lt0 : ∀ x ∈ p0, x.block < W.heap.size := by obtain ⟨m, hm⟩ := k0; exact DataW.trod_lt m _ _ _ hm
  obtain ⟨z0, w0⟩ : ∃ zs : List Int, (a0 = none ∧ len0 = 0 ∧ cap0 = 0 ∧ zs = []) ∨ ∃ x, a0 = some x ∧ len0 ≤ cap0 ∧ cap0 ≤ maxLen ∧ zs.length = cap0 ∧ (∀ i, i < zs.length → W.cell? (x.add i) = some (.int .u32 (zs.getD i 0))) ∧ ∀ n ∈ zs, (Lit.int .u32 n).wf = true := by
    obtain ⟨fuel, hf⟩ := h0
    rcases open_ints Ybgt.underlying22 Ybgt.underlying25 (by kernel_rfl) hf with ⟨hcs, _⟩ | ⟨x, l, c, zs, hcs, _, hl, hm, hz, _, hcell, hwz⟩
    · simp [Value.cells] at hcs
      obtain ⟨rfl, rfl, rfl⟩ := hcs
      exact ⟨[], .inl ⟨rfl, rfl, rfl, rfl⟩⟩
    · simp [Value.cells] at hcs
      obtain ⟨rfl, rfl, rfl⟩ := hcs
      exact ⟨zs, .inr ⟨_, rfl, hl, hm, by simpa using hz, hcell, hwz⟩⟩
  clear hA0 hval0
  refine (walk F.told a0 len0 cap0 z0 W hF w0).mono fun e W' ⟨he, bel⟩ => ?_
  subst he
  exact ⟨_, rfl, _, _, _, [], _, [], hW', trodAll_mk1 (shut_bool Ybgt.underlying4 _), (trodAll_cons_mk (Below.trod laidOutP (by kernel_rfl) (of_decide_eq_true (by kernel_rfl)) k0 bel lt0) trodAll_mk0), rfl, bel.frame _, fun h => by cases h⟩

theorem laidOut : laidOutB Ybgt.pinned.checked.prog = true := by kernel_rfl
theorem stops : Ybgt.pinned.checked.prog.stops = ["fmt.errorf"] := by kernel_rfl
theorem stopKnobs : Ybgt.pinned.checked.prog.stopKnobs = [] := by kernel_rfl
theorem quiet (os : Os) : Stop.quiet Ybgt.pinned.checked.prog os := by
  intro k hk
  rw [stopKnobs] at hk
  cases hk

/-- THE STATEMENT. -/
theorem proved : Rows.LawS3747ABudgetToldSaid :=
  Claim7.holds_of_told_any 3 Ybgt.f3 "fmt.errorf" [] [] _ _ _ (by kernel_rfl) rfl rfl rfl laidOut (by kernel_rfl) rfl ⟨rfl, rfl, rfl, rfl, rfl, rfl, rfl⟩ rfl rfl (by kernel_rfl) (by kernel_rfl) Ybgt.func3 (by kernel_rfl)
    (of_decide_eq_true (by kernel_rfl)) (of_decide_eq_true (by kernel_rfl)) stops.symm rfl stopKnobs.symm (by kernel_rfl)
    (by kernel_rfl) (by kernel_rfl) (by kernel_rfl) (by kernel_rfl) (by kernel_rfl) (by kernel_rfl) (by kernel_rfl) (by kernel_rfl) (by kernel_rfl) rfl (by kernel_rfl) rfl rfl
    rfl rfl
    rfl (by kernel_rfl) (by kernel_rfl) (by kernel_rfl) (by decide) (by kernel_rfl)
    (OpenClaim.moreEntering_of (by kernel_rfl) (by kernel_rfl) (by kernel_rfl) (by kernel_rfl) (by kernel_rfl) (by kernel_rfl) (by kernel_rfl) (by kernel_rfl) (by kernel_rfl) (by kernel_rfl))
    ⟨_, WideRow.started_initial, quiet _⟩
    (fun os started _ H enc _ => lifted os started H enc)

#print axioms proved

end Go.Proofs.YbonehmrrFmt
