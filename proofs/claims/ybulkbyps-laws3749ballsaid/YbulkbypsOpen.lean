/-
  For the rows of this seat: the arguments, opened.
-/
import Derived.Test.YbulkbypsCommon
import Derived.ProofKit
import Derived.Deep.Strs
import Derived.OpenShut
import Derived.ShutString
import Derived.ChangeOld
import Derived.Below
namespace Go.Proofs.Ybulkbyps
open Go.ChangeShapes Go.WideShapes Go.ChangeAt Go.RowKit Go.Deep
open Go.ChangeMaps (open_string shut_string)

theorem own : ownKnob Yba.prog.godebug = none := by kernel_rfl
theorem laidOut : laidOutB Yba.prog = true := by kernel_rfl
theorem cells9' : Yba.prog.cellsOf 9 = 1 := by kernel_rfl

theorem bd8 {n : Int} (h : (Lit.int .u8 n).wf = true) : 0 ≤ n ∧ n ≤ 255 := by
  simp [Lit.wf, IntKind.min, IntKind.max, IntKind.signed, IntKind.bits] at h
  omega

theorem plain_addr {w : World} {a : Addr} {v : Value} (h : w.cell? (a.add 0) = some v) : ∃ b off, a = ⟨b, off, none⟩ := by
  obtain ⟨b, off, spot⟩ := a
  have hspot : spot = none := by simpa [Addr.add] using World.cell?_spot h
  subst hspot
  exact ⟨b, off, rfl⟩

theorem strs_of {H : Type} {enc : TypeId × Value → H} {W : World} {fuel : Nat} {a0 : Option Addr} {len cap : Nat} {d : DataW H} {p : List MemPlace} (hf : DataW.trod enc Yba.prog W 0 (fun _ => true) true fuel 22 [.slice a0 len cap] = some (d, p)) :
    len ≤ maxLen ∧ ((a0 = none ∧ len = 0 ∧ cap = 0) ∨ ∃ ad, a0 = some ad) ∧ ∃ S, Strs W a0 len S := by
  rcases open_strs Yba.underlying22 Yba.underlying9 cells9' hf with ⟨hcs, _⟩ | ⟨a, len', cap', m, Sx, hcs, _, hl, hm, hmm, _, hel⟩
  · simp at hcs
    obtain ⟨rfl, rfl, rfl⟩ := hcs
    exact ⟨by omega, .inl ⟨rfl, rfl, rfl⟩, fun _ => ByteArray.empty, fun i hi => by omega⟩
  · simp at hcs
    obtain ⟨rfl, rfl, rfl⟩ := hcs
    have hmc : m = cap := by simpa using hmm
    refine ⟨by omega, .inr ⟨a, rfl⟩, Sx, fun i hi => ?_⟩
    obtain ⟨b, off, rfl⟩ := plain_addr (hel 0 (by omega)).1
    have := (hel i (by omega)).1
    rw [Addr.add_lit] at this
    exact ⟨b, off, rfl, this⟩

end Go.Proofs.Ybulkbyps
