/-
  The walk of hauberk.LawS3747ABudget (function 3) over the contracts of newVariables (4) and (*variables).write (5).
-/
import Derived.Test.YbonehmrrFmtCards
import Derived.WalkKit
import Derived.WalkSpells
import Derived.WalkLawsBesides
import Derived.ProofKit
import Derived.Stop.CallBack
import Derived.Stop.IfaceNil
import GoSem.ClaimData
namespace Go.Proofs.YbonehmrrFmt
open Go.RowKit Go.Extern.Stop Go.Stop Go.Extern

-- the closed facts that the walk over fmt.errorf's stop wants
theorem call7 (args : Array Value) (w : World) : (callFunc 7 args).run Ybgt.prog w = ((FmtStop.errorf #[9, 38] #[27] args).run Ybgt.prog w).andThen fun v w' => .ok (.value v) w' :=
  run_callFunc_extern Ybgt.func7 (by kernel_rfl) (by kernel_rfl) (by kernel_rfl) (by kernel_rfl) args w
theorem guardOk (name : String) (w : World) : (FmtStop.guard name).run Ybgt.prog w = .ok () w := by kernel_rfl
theorem fmt0 : FmtStop.printed? ⟨#[118, 97, 114, 105, 97, 98, 108, 101, 115, 32, 119, 114, 105, 116, 116, 101, 110, 32, 111, 117, 116, 32, 97, 115, 32, 116, 101, 120, 116, 32, 99, 111, 109, 101, 32, 116, 111, 32, 109, 111, 114, 101, 32, 116, 104, 97, 110, 32, 37, 100, 32, 98, 121, 116, 101, 115, 32, 105, 110, 32, 97, 108, 108]⟩ 1 = some [(0, 100, false)] := by kernel_rfl
theorem fmt0r (w : World) : (FmtDoors.printed ⟨#[118, 97, 114, 105, 97, 98, 108, 101, 115, 32, 119, 114, 105, 116, 116, 101, 110, 32, 111, 117, 116, 32, 97, 115, 32, 116, 101, 120, 116, 32, 99, 111, 109, 101, 32, 116, 111, 32, 109, 111, 114, 101, 32, 116, 104, 97, 110, 32, 37, 100, 32, 98, 121, 116, 101, 115, 32, 105, 110, 32, 97, 108, 108]⟩ 1).run Ybgt.prog w = .ok [(0, 100, false)] w := by kernel_rfl
theorem op3 (name : String) (b : Bool) (x : Int) (w : World) : (FmtStop.operand name b 100 false (.iface 3 (.int .i64 x))).run Ybgt.prog w = .ok ([5, 3, 0, 0, 0, 0, 0, 0, 0, 105, 110, 116], Go.Extern.Stop.digits 8 (x % 2 ^ 64).toNat) w := by cases b <;> kernel_rfl
theorem ptr41 (w : World) : (FmtStop.ptrTo "errors.errorString").run Ybgt.prog w = .ok 41 w := by kernel_rfl
theorem elem41 (w : World) : (elemOf 41).run Ybgt.prog w = .ok 43 w := by kernel_rfl
attribute [local go_sem] call7 guardOk fmt0 fmt0r op3 ptr41 elem41

set_option maxHeartbeats 400000 in
theorem write_neg (F : Interp) (b : Nat) (l n : Int) (w : World) (hF : F.answers w.tape) (hb : b < w.heap.size) (hc : w.cell? ⟨b, 9, none⟩ = some (.int .i64 l)) (hf : w.frozen? ⟨b, 9, none⟩ = false)
    (h1 : -1000000000000000 ≤ l) (h2 : l ≤ 1000000000000000) (h3 : 0 ≤ n) (h4 : n ≤ 1000000000000000) (hl : l - n < 0) :
    Calls Ybgt.prog 5 #[.pointer (some ⟨b, 0, none⟩), .int .i64 n] w fun e w' => (∃ a, e = .returned (.iface 41 (.pointer (some a)))) ∧ w'.cell? ⟨b, 9, none⟩ = some (.int .i64 (l - n)) ∧ w'.cell? ⟨b, 8, none⟩ = w.cell? ⟨b, 8, none⟩ ∧ w'.frozen? ⟨b, 9, none⟩ = false ∧ Below b w w' := by
  have hF' := answers_open hF
  go_enter Ybgt.func5, Ybgt.ntmps5
  go_wp2
  go_ret
  refine ⟨⟨_, rfl⟩, ?_, ?_, ?_, ?_⟩
  · rw [World.cell?_drew, World.cell?_alloc_past _ _ _ (by simp; omega), World.cell?_alloc_past _ _ _ (by simpa using hb)]
    exact World.cell?_setCell_same _ _ _ hc
  · rw [World.cell?_drew, World.cell?_alloc_past _ _ _ (by simp; omega), World.cell?_alloc_past _ _ _ (by simpa using hb)]
    exact World.cell?_setCell_other _ _ _ _ (by simp)
  · rw [World.frozen?_drew, World.frozen?_alloc_past _ _ _ (by simp; omega), World.frozen?_alloc_past _ _ _ (by simpa using hb), World.frozen?_setCell]
    exact hf
  · exact ((((Below.refl b w).setCell (Nat.le_refl _) _).alloc (by simp; omega) _).alloc (by simp; omega) _).drew

set_option maxHeartbeats 400000 in
theorem write_pos (b : Nat) (l n : Int) (w : World) (hc : w.cell? ⟨b, 9, none⟩ = some (.int .i64 l)) (hf : w.frozen? ⟨b, 9, none⟩ = false)
    (h1 : -1000000000000000 ≤ l) (h2 : l ≤ 1000000000000000) (h3 : 0 ≤ n) (h4 : n ≤ 1000000000000000) (hl : 0 ≤ l - n) :
    Calls Ybgt.prog 5 #[.pointer (some ⟨b, 0, none⟩), .int .i64 n] w fun e w' => e = .returned .nilIface ∧ w'.cell? ⟨b, 9, none⟩ = some (.int .i64 (l - n)) ∧ w'.cell? ⟨b, 8, none⟩ = w.cell? ⟨b, 8, none⟩ ∧ w'.frozen? ⟨b, 9, none⟩ = false ∧ Below b w w' := by
  go_enter Ybgt.func5, Ybgt.ntmps5
  go_wp2
  go_ret
  exact ⟨rfl, World.cell?_setCell_same _ _ _ hc, World.cell?_setCell_other _ _ _ _ (by simp), by rw [World.frozen?_setCell]; exact hf, (Below.refl b w).setCell (Nat.le_refl _) _⟩

set_option maxHeartbeats 400000 in
theorem new_any (w : World) : Calls Ybgt.prog 4 #[] w fun e w' => ∃ b, e = .returned (.pointer (some ⟨b, 0, none⟩)) ∧ w.heap.size ≤ b ∧ b < w'.heap.size ∧ w'.cell? ⟨b, 9, none⟩ = some (.int .i64 8388608) ∧ w'.cell? ⟨b, 8, none⟩ = some (.int .i64 1048576) ∧ w'.frozen? ⟨b, 9, none⟩ = false ∧ Below w.heap.size w w' := by
  have hmm := @run_makeMap Ybgt.prog
  go_enter Ybgt.func4, Ybgt.ntmps4
  go_wp2
  go_ret
  refine ⟨_, rfl, by omega, by simp, ?_, ?_, ?_, ?_⟩
  · rw [World.cell?_alloc_at _ _ _ _ (by simp)]; rfl
  · rw [World.cell?_alloc_at _ _ _ _ (by simp)]; rfl
  · rw [World.frozen?_alloc_at _ _ _ _ (by simp)]
  · exact (((((((Below.refl _ w).alloc (Nat.le_refl _) _).alloc (by simp) _).alloc (by simp; omega) _).alloc (by simp; omega) _).alloc (by simp; omega) _).alloc (by simp; omega) _).alloc (by simp; omega) _

/-! ### the plain law -/
def sumTo (zs : List Int) : Nat → Int
  | 0 => 0
  | k + 1 => sumTo zs k + zs[k]?.getD 0
theorem sumTo_bd (zs : List Int) (h : ∀ k : Nat, 0 ≤ zs[k]?.getD 0 ∧ zs[k]?.getD 0 ≤ 4294967295) (k : Nat) : 0 ≤ sumTo zs k ∧ sumTo zs k ≤ 4294967295 * (k : Int) := by
  induction k with
  | zero => simp [sumTo]
  | succ k ih => have := h k; simp only [sumTo]; omega

set_option maxHeartbeats 400000 in
theorem walk_long (a0 : Option Addr) (len cap : Nat) (w : World) (h : 1024 < len) (hm : len ≤ maxLen) :
    Calls Ybgt.prog 3 #[.slice a0 len cap] w fun e w' => e = .returned (.bool true) ∧ Below w.heap.size w w' := by
  unfold maxLen at hm
  go_enter Ybgt.func3, Ybgt.ntmps3
  go_wp2
  go_ret
  exact ⟨rfl, Below.refl _ _⟩

set_option maxHeartbeats 1000000 in
theorem walk_short (F : Interp) (a0 : Option Addr) (len cap : Nat) (zs : List Int) (w : World) (hF : F.answers w.tape) (h : len ≤ 1024)
    (hz : ∀ k : Nat, 0 ≤ zs[k]?.getD 0 ∧ zs[k]?.getD 0 ≤ 4294967295)
    (hrow : ∀ k, k < len → ∃ b off, a0 = some ⟨b, off, none⟩ ∧ b < w.heap.size ∧ w.cell? ⟨b, off + k, none⟩ = some (.int .u32 (zs[k]?.getD 0))) :
    Calls Ybgt.prog 3 #[.slice a0 len cap] w fun e w' => e = .returned (.bool true) ∧ Below w.heap.size w w' := by
  go_enter Ybgt.func3, Ybgt.ntmps3
  go_wp2_with (go_at_call 4; refine (new_any _).mono ?_; rintro e w1 ⟨vb, rfl, hvb, hvs, hc9, hc8, hf9, hbel⟩)
  go_loopw [4, 5] (fun t i wr => ∃ k : Nat, k ≤ len ∧ i = .int .i64 k ∧ t = .int .i64 (sumTo zs k) ∧ wr.cell? ⟨vb, 9, none⟩ = some (.int .i64 (8388608 - sumTo zs k)) ∧ wr.cell? ⟨vb, 8, none⟩ = some (.int .i64 1048576) ∧ wr.frozen? ⟨vb, 9, none⟩ = false ∧ vb < wr.heap.size ∧ Below w.heap.size w wr) (fun _ i _ => len - (intOf i).toNat)
  case atStart => exact ⟨0, Nat.zero_le _, rfl, rfl, hc9, hc8, hf9, hvs, hbel⟩
  case round =>
    obtain ⟨k, hk, rfl, rfl, g9, g8, gf, gs, gb⟩ := hrel
    have hs := sumTo_bd zs hz k
    have hzk := hz k
    clear hc9 hc8 hf9 hvs hbel
    by_cases hlt : k < len
    · obtain ⟨b, off, rfl, hb, hc⟩ := hrow k hlt
      have hcr : wr.cell? ⟨b, off + k, none⟩ = some (.int .u32 (zs[k]?.getD 0)) := (gb.cell hb).trans hc
      have gF : F.answers wr.tape := by rw [gb.tape]; exact hF
      clear hc hrow hz
      have HS : Hid (sumTo zs (k + 1) = sumTo zs k + zs[k]?.getD 0) := rfl
      obtain ⟨S, hS⟩ : ∃ S, S = sumTo zs k := ⟨_, rfl⟩
      obtain ⟨z, hz'⟩ : ∃ z, z = zs[k]?.getD 0 := ⟨_, rfl⟩
      rw [← hS] at hs g9 ⊢
      rw [← hz'] at hzk hcr
      rw [← hS, ← hz'] at HS
      clear hS hz'
      have t2 : (8388608 - S - z != 8388608 - (S + z)) = false := by rw [show (8388608 : Int) - S - z = 8388608 - (S + z) from by omega]; simp
      by_cases hneg : 8388608 - S - z < 0
      · have t1 : (!decide (8388608 < S + z)) = false := by simp; omega
        go_wp2_with (go_at_call 5; refine (write_neg F vb (8388608 - S) z _ (by exact gF) (by exact gs) (by exact g9) (by exact gf) (by omega) (by omega) (by omega) (by omega) (by omega)).mono ?_; rintro e w2 ⟨⟨a, rfl⟩, k9, k8, kf, kb⟩; rw [g8] at k8)
        go_roundw
        case rel => exact ⟨k + 1, by omega, by go_num, by rw [HS.out], by rw [k9, HS.out, show (8388608 : Int) - S - z = 8388608 - (S + z) from by omega], k8, kf, Nat.lt_of_lt_of_le gs kb.size, gb.trans (kb.mono hvb)⟩
        case measure => simp [intOf]; omega
      · have t1 : decide (8388608 < S + z) = false := by simp; omega
        go_wp2_with (go_at_call 5; refine (write_pos vb (8388608 - S) z _ (by exact g9) (by exact gf) (by omega) (by omega) (by omega) (by omega) (by omega)).mono ?_; rintro e w2 ⟨rfl, k9, k8, kf, kb⟩; rw [g8] at k8)
        go_roundw
        case rel => exact ⟨k + 1, by omega, by go_num, by rw [HS.out], by rw [k9, HS.out, show (8388608 : Int) - S - z = 8388608 - (S + z) from by omega], k8, kf, Nat.lt_of_lt_of_le gs kb.size, gb.trans (kb.mono hvb)⟩
        case measure => simp [intOf]; omega
    · go_wp2
      go_ret
      exact ⟨rfl, gb⟩

end Go.Proofs.YbonehmrrFmt
