/-
  LawS3748AFirst: the walk (YbulkbypeFirstWalk), lifted to the row's form; the row.
-/
import Derived.Test.YbulkbypeFirstWalk
import Derived.ProofKit
import Derived.OpenShut
import Derived.ShutString
import Derived.ChangeOld
import Derived.Below
import Derived.Laws.IdiomArrays
namespace Go.Proofs.Ybulkbype
open Go.ChangeShapes Go.WideShapes Go.ChangeAt Go.RowKit

theorem own : ownKnob Yba.prog.godebug = none := by kernel_rfl
theorem laidOut : laidOutB Yba.prog = true := by kernel_rfl
theorem cells22 : Yba.prog.cellsOf 22 = 4 := by kernel_rfl
theorem cells5 : Yba.prog.cellsOf 5 = 1 := by kernel_rfl
theorem list4 (l : List Value) (h : l.length = 4) : ∃ a b c d, l = [a, b, c, d] := by
  match l, h with
  | [a, b, c, d], _ => exact ⟨a, b, c, d, rfl⟩

theorem bd8 {n : Int} (h : (Lit.int .u8 n).wf = true) : 0 ≤ n ∧ n ≤ 255 := by
  simp [Lit.wf, IntKind.min, IntKind.max, IntKind.signed, IntKind.bits] at h
  omega

/-- The walk, at four bytes. -/
theorem walk4 (x0 x1 x2 x3 s : Int) (w0 : (Lit.int .u8 x0).wf = true) (w1 : (Lit.int .u8 x1).wf = true) (w2 : (Lit.int .u8 x2).wf = true) (w3 : (Lit.int .u8 x3).wf = true) (ws : (Lit.int .u8 s).wf = true) (w : World) :
    Calls Yba.prog 3 #[.agg #[.int .u8 x0, .int .u8 x1, .int .u8 x2, .int .u8 x3], .int .u8 s] w fun e w' => e = .returned (.bool true) ∧ Below w.heap.size w w' := by
  have b0 := bd8 w0
  have b1 := bd8 w1
  have b2 := bd8 w2
  have b3 := bd8 w3
  have bs := bd8 ws
  obtain ⟨n0, rfl⟩ : ∃ n : Nat, x0 = n := ⟨x0.toNat, by omega⟩
  obtain ⟨n1, rfl⟩ : ∃ n : Nat, x1 = n := ⟨x1.toNat, by omega⟩
  obtain ⟨n2, rfl⟩ : ∃ n : Nat, x2 = n := ⟨x2.toNat, by omega⟩
  obtain ⟨n3, rfl⟩ : ∃ n : Nat, x3 = n := ⟨x3.toNat, by omega⟩
  have h := walk (fun j => match j with | 0 => n0 | 1 => n1 | 2 => n2 | 3 => n3 | _ => 0) s (fun j => by
    match j with
    | 0 => show n0 ≤ 255; omega
    | 1 => show n1 ≤ 255; omega
    | 2 => show n2 ≤ 255; omega
    | 3 => show n3 ≤ 255; omega
    | j + 4 => show 0 ≤ 255; omega) bs.1 bs.2 w
  exact h

set_option maxRecDepth 100000 in
theorem lifted (os : Os) (started : os.Started) (H : Type) (enc : TypeId × Value → H) :
    ReturnsInHanded {} Yba.checked os 3 .any (Rows.lawS3748AFirstSpec.pre6 enc Yba.prog Yba.f3 Rows.lawS3748AFirstRow.domain false) (Rows.lawS3748AFirstSpec.post enc Yba.prog Yba.f3 false true false false) := by
  refine returnsInHanded_of_change (C := Yba.checked) own started (by kernel_rfl) Yba.func3
    (ChangeSpec.witness6 (enc := enc) (C := Yba.checked) false ⟨#[], #[.agg #[.int .u8 0, .int .u8 0, .int .u8 0, .int .u8 0], .int .u8 0], []⟩ 8 (by kernel_rfl) (by kernel_rfl) (by kernel_rfl) (by kernel_rfl)) ?_
  intro W base args ds gs before hval0 hW hcnd _
  have hval : ∀ (j : Nat) t v, Yba.f3.params[j]? = some t → args[j]? = some v → Value.okWide Yba.prog W .any base t v := hval0
  have hW' := hW
  obtain ⟨p, q, hA0, hV, rfl, hfz, hnd⟩ := hW
  have hA : DataW.TrodAll enc Yba.prog W 0 (fun _ => true) true Yba.f3.params.toList args.toList ds p := hA0
  rw [Yba.params3] at hA hval
  obtain ⟨v0, vs0, d0, ds0, p0, q0, hargs, rfl, rfl, h0, r0⟩ := trodAll_cons hA
  obtain ⟨v1, vs1, d1, ds1, p1, q1, rfl, rfl, rfl, h1, r1⟩ := trodAll_cons r0
  obtain ⟨rfl, rfl, rfl⟩ := trodAll_nil r1
  obtain rfl : args = #[v0, v1] := by cases args; simp_all
  obtain ⟨rfl, rfl⟩ := trodVars_none hV
  have k0 := h0
  have lt0 : ∀ x ∈ p0, x.block < W.heap.size := by obtain ⟨m, hm⟩ := k0; exact DataW.trod_lt m _ _ _ hm
  obtain ⟨s, rfl, rfl, rfl, ws⟩ := open_int Yba.underlying5 (hval 1 5 v1 rfl rfl) h1
  have key : Calls Yba.prog 3 #[v0, .int .u8 s] W fun e w' => e = .returned (.bool true) ∧ Below W.heap.size W w' := by
    obtain ⟨cs, rfl, hsz, _⟩ : ∃ cs, v0 = .agg cs ∧ cs.size = Yba.prog.cellsOf 22 ∧ Row.okWide Yba.prog W .any base 22 cs := by
      have := hval 0 22 v0 rfl rfl
      simpa [Value.okWide, Yba.underlying22] using this
    rw [cells22] at hsz
    obtain ⟨l⟩ := cs
    obtain ⟨c0, c1, c2, c3, rfl⟩ := list4 l hsz
    obtain ⟨fuel, hf⟩ := h0
    obtain ⟨y0, y1, y2, y3, m, hx, hy0, hy1, hy2, hy3⟩ := trod_array4 Yba.underlying22 cells5 hf
    obtain ⟨x0, e0, rfl, w0⟩ := DataW.trod_int Yba.underlying5 hy0
    obtain ⟨x1, e1, rfl, w1⟩ := DataW.trod_int Yba.underlying5 hy1
    obtain ⟨x2, e2, rfl, w2⟩ := DataW.trod_int Yba.underlying5 hy2
    obtain ⟨x3, e3, rfl, w3⟩ := DataW.trod_int Yba.underlying5 hy3
    simp at e0 e1 e2 e3
    subst e0 e1 e2 e3
    exact walk4 x0 x1 x2 x3 s w0 w1 w2 w3 ws W
  clear hA0 hval0
  refine key.mono fun e W' ⟨he, bel⟩ => ?_
  subst he
  exact ⟨_, rfl, _, _, _, [], _, [], hW', trodAll_mk1 (shut_bool Yba.underlying4 _), (trodAll_cons_mk (Below.trod laidOut (by kernel_rfl) (of_decide_eq_true (by kernel_rfl)) k0 bel lt0) (trodAll_cons_mk (shut_int Yba.underlying5 ws) trodAll_mk0)), rfl, bel.frame _, fun h => by cases h⟩

/-- THE STATEMENT. -/
theorem proved : Rows.LawS3748AFirstSaid :=
  OpenClaim.holds_of_wide 3 Yba.f3 rfl rfl rfl rfl rfl rfl rfl ⟨rfl, rfl, rfl, rfl, rfl⟩ rfl rfl rfl rfl rfl (by kernel_rfl) Yba.func3 (by kernel_rfl)
    (of_decide_eq_true (by kernel_rfl)) (by unfold Func.isWrapper; first | (rw [if_pos (by decide +kernel)]; kernel_rfl) | (rw [if_neg (by decide +kernel)]; exact ⟨rfl, rfl⟩))
    (fun os started H enc _ => lifted os started H enc)

#print axioms proved
end Go.Proofs.Ybulkbype
