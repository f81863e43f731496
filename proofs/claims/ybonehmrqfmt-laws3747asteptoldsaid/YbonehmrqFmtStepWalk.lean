/-
  The walk of hauberk.LawS3747AStep (function 3) and of (*variables).write (function 4), which it enters, over fmt.errorf's stop.
-/
import Derived.Test.YbonehmrqFmtCards
import Derived.WalkKit
import Derived.WalkSpells
import Derived.WalkLawsBesides
import Derived.ProofKit
import Derived.Stop.CallBack
import Derived.Stop.IfaceNil
import GoSem.ClaimData
namespace Go.Proofs.YbonehmrqFmt
open Go.RowKit Go.Extern.Stop Go.Stop Go.Extern

-- the closed facts that the walk over fmt.errorf's stop wants
theorem call6 (args : Array Value) (w : World) : (callFunc 6 args).run Ybgs.prog w = ((FmtStop.errorf #[9, 35] #[31] args).run Ybgs.prog w).andThen fun v w' => .ok (.value v) w' :=
  run_callFunc_extern Ybgs.func6 (by kernel_rfl) (by kernel_rfl) (by kernel_rfl) (by kernel_rfl) args w
theorem guardOk (name : String) (w : World) : (FmtStop.guard name).run Ybgs.prog w = .ok () w := by kernel_rfl
theorem fmt0 : FmtStop.printed? ⟨#[118, 97, 114, 105, 97, 98, 108, 101, 115, 32, 119, 114, 105, 116, 116, 101, 110, 32, 111, 117, 116, 32, 97, 115, 32, 116, 101, 120, 116, 32, 99, 111, 109, 101, 32, 116, 111, 32, 109, 111, 114, 101, 32, 116, 104, 97, 110, 32, 37, 100, 32, 98, 121, 116, 101, 115, 32, 105, 110, 32, 97, 108, 108]⟩ 1 = some [(0, 100, false)] := by kernel_rfl
theorem fmt0r (w : World) : (FmtDoors.printed ⟨#[118, 97, 114, 105, 97, 98, 108, 101, 115, 32, 119, 114, 105, 116, 116, 101, 110, 32, 111, 117, 116, 32, 97, 115, 32, 116, 101, 120, 116, 32, 99, 111, 109, 101, 32, 116, 111, 32, 109, 111, 114, 101, 32, 116, 104, 97, 110, 32, 37, 100, 32, 98, 121, 116, 101, 115, 32, 105, 110, 32, 97, 108, 108]⟩ 1).run Ybgs.prog w = .ok [(0, 100, false)] w := by kernel_rfl
theorem op3 (name : String) (b : Bool) (x : Int) (w : World) : (FmtStop.operand name b 100 false (.iface 3 (.int .i64 x))).run Ybgs.prog w = .ok ([5, 3, 0, 0, 0, 0, 0, 0, 0, 105, 110, 116], Go.Extern.Stop.digits 8 (x % 2 ^ 64).toNat) w := by cases b <;> kernel_rfl
theorem ptr38 (w : World) : (FmtStop.ptrTo "errors.errorString").run Ybgs.prog w = .ok 38 w := by kernel_rfl
theorem elem38 (w : World) : (elemOf 38).run Ybgs.prog w = .ok 40 w := by kernel_rfl
attribute [local go_sem] call6 guardOk fmt0 fmt0r op3 ptr38 elem38

set_option maxHeartbeats 400000 in
theorem walk_neg (F : Interp) (a b t : Int) (s : ByteArray) (w : World) (hF : F.answers w.tape) (hn : wrap64 (a - b) < 0) :
    Calls Ybgs.prog 3 #[.int .i64 a, .int .i64 b, .int .i64 t, .string s] w fun e w' => e = .returned (.bool true) ∧ Grown w w' := by
  have hF' := answers_open hF
  go_enter Ybgs.func3, Ybgs.ntmps3
  go_wp2
  go_ret
  exact ⟨rfl, by repeat (first | exact Grown.refl _ | apply Grown.drew | apply Grown.alloc)⟩

set_option maxHeartbeats 400000 in
theorem walk_pos (a b t : Int) (s : ByteArray) (w : World) (hn : ¬ wrap64 (a - b) < 0) :
    Calls Ybgs.prog 3 #[.int .i64 a, .int .i64 b, .int .i64 t, .string s] w fun e w' => e = .returned (.bool true) ∧ Grown w w' := by
  go_enter Ybgs.func3, Ybgs.ntmps3
  go_wp2
  go_ret
  exact ⟨rfl, by repeat (first | exact Grown.refl _ | apply Grown.drew | apply Grown.alloc)⟩

end Go.Proofs.YbonehmrqFmt
