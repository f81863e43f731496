/-
  For LawS3748BFinds: the contracts of the callees: slices.Clone (function 4), slices.Index (7), both at []string, and (*journalState).task (5).
-/
import Derived.Test.YbulkbypeFmtCards
import Derived.Test.YbulkbypeFmtFindsPlain
import Derived.WalkLawsBesides
import Derived.ProofKit
import Derived.Stop.CallBack
import Derived.Stop.IfaceNil
import Derived.BigQuiet
import Derived.Deep.QuietTactic
import GoSem.ClaimData
namespace Go.Proofs.YbulkbypeFmt
open Go.RowKit Go.Extern.Stop Go.Stop Go.Extern Go.Maps

/-! ### the closed facts that the walk over fmt.errorf's stop wants -/
theorem call8 (args : Array Value) (w : World) : (callFunc 8 args).run Ybaf.prog w = ((FmtStop.errorf #[9, 58] #[51] args).run Ybaf.prog w).andThen fun v w' => .ok (.value v) w' :=
  run_callFunc_extern Ybaf.func8 (by kernel_rfl) (by kernel_rfl) (by kernel_rfl) (by kernel_rfl) args w
theorem guardOk (name : String) (w : World) : (FmtStop.guard name).run Ybaf.prog w = .ok () w := by kernel_rfl
theorem fmt0 : FmtStop.printed? ⟨#[106, 111, 98, 32, 37, 100, 44, 32, 110, 97, 109, 101, 100, 32, 98, 121, 32, 97, 110, 32, 101, 110, 116, 114, 121, 32, 111, 102, 32, 111, 112, 32, 37, 100, 44, 32, 105, 115, 32, 110, 111, 116, 32, 111, 110, 101, 32, 116, 104, 101, 32, 106, 111, 117, 114, 110, 97, 108, 32, 104, 111, 108, 100, 115]⟩ 2 = some [(0, 100, false), (1, 100, false)] := by kernel_rfl
theorem fmt0r (w : World) : (FmtDoors.printed ⟨#[106, 111, 98, 32, 37, 100, 44, 32, 110, 97, 109, 101, 100, 32, 98, 121, 32, 97, 110, 32, 101, 110, 116, 114, 121, 32, 111, 102, 32, 111, 112, 32, 37, 100, 44, 32, 105, 115, 32, 110, 111, 116, 32, 111, 110, 101, 32, 116, 104, 101, 32, 106, 111, 117, 114, 110, 97, 108, 32, 104, 111, 108, 100, 115]⟩ 2).run Ybaf.prog w = .ok [(0, 100, false), (1, 100, false)] w := by kernel_rfl
theorem fmt1 : FmtStop.printed? ⟨#[106, 111, 98, 32, 37, 100, 32, 104, 97, 115, 32, 110, 111, 32, 116, 97, 115, 107, 32, 111, 110, 32, 116, 97, 114, 103, 101, 116, 32, 37, 113]⟩ 2 = some [(0, 100, false), (1, 113, false)] := by kernel_rfl
theorem fmt1r (w : World) : (FmtDoors.printed ⟨#[106, 111, 98, 32, 37, 100, 32, 104, 97, 115, 32, 110, 111, 32, 116, 97, 115, 107, 32, 111, 110, 32, 116, 97, 114, 103, 101, 116, 32, 37, 113]⟩ 2).run Ybaf.prog w = .ok [(0, 100, false), (1, 113, false)] w := by kernel_rfl
theorem op31 (name : String) (b : Bool) (x : Int) (w : World) : (FmtStop.operand name b 100 false (.iface 31 (.int .u64 x))).run Ybaf.prog w = .ok (FmtStop.intCode .u64 :: FmtStop.pack "portunus.JobID".toUTF8.data.toList, Go.Extern.Stop.digits 8 (x % 2 ^ 64).toNat) w := by cases b <;> kernel_rfl
theorem op40 (name : String) (b : Bool) (x : Int) (w : World) : (FmtStop.operand name b 100 false (.iface 40 (.int .u8 x))).run Ybaf.prog w = .ok (FmtStop.intCode .u8 :: FmtStop.pack "portunus.op".toUTF8.data.toList, Go.Extern.Stop.digits 8 (x % 2 ^ 64).toNat) w := by cases b <;> kernel_rfl
theorem op9 (name : String) (b : Bool) (x : ByteArray) (w : World) : (FmtStop.operand name b 113 false (.iface 9 (.string x))).run Ybaf.prog w = .ok ([12, 6, 0, 0, 0, 0, 0, 0, 0, 115, 116, 114, 105, 110, 103], FmtStop.pack x.data.toList) w := by cases b <;> kernel_rfl
theorem ptr61 (w : World) : (FmtStop.ptrTo "errors.errorString").run Ybaf.prog w = .ok 61 w := by kernel_rfl
theorem elem61 (w : World) : (elemOf 61).run Ybaf.prog w = .ok 63 w := by kernel_rfl
attribute [local go_sem] call8 guardOk fmt0 fmt0r fmt1 fmt1r op31 op40 op9 ptr61 elem61

theorem info9 : (Ybaf.prog.info? 9).map (fun i => (i.zero, i.size, i.bytes)) = some (some (.string ⟨#[]⟩), 1, 16) := by kernel_rfl

/-! ### slices.Clone -/
/-- The strings of a slice, appended to an empty slice of the call's own. -/
theorem wpList_clone {ops : Array Oper} {rest : List Oper} {o : Oper} {a : Act} {Q : Exit → Act → World → Prop} (w0 w : World) (hgd : o.guard = none) (s x : Operand)
    (ho : o.op = .call { callee := .builtin .append, args := #[s, x], argTypes := #[24, 24] })
    (hs : a.eval s = .slice (some ⟨w0.heap.size, 0, none⟩) 0 0) (hw : w = w0.alloc (.cells #[] 9)) (ad : Addr) (n c : Nat) (S : Nat → ByteArray) (hx : a.eval x = .slice (some ad) n c)
    (hc : ∀ i, i < n → w0.cell? (ad.add i) = some (.string (S i))) (hn : n ≤ 8192)
    (h : ∀ ga gc w', Below w0.heap.size w0 w' → (∀ i, i < n → ∃ cb, ga = some ⟨cb, 0, none⟩ ∧ w0.heap.size ≤ cb ∧ w'.cell? ⟨cb, i, none⟩ = some (.string (S i))) → wpList Ybaf.prog ops Q rest (a.put o.dst (.slice ga n gc)) w') :
    wpList Ybaf.prog ops Q (o :: rest) a w := by
  subst hw
  obtain ⟨i0, hi, hz0, hz1, hz2⟩ := info_parts info9
  refine wpList_append_own (w0.alloc (.cells #[] 9)) hgd s x 24 ho w0.heap.size 9 i0 (.string ⟨#[]⟩) 1 16 Ybaf.underlying24 hi hz0 hz1 hz2 rfl (by decide) (.slice (some ⟨w0.heap.size, 0, none⟩) 0 0) 0 [] hs
    (World.ownsRow_lit w0 #[] 0 (Nat.le_refl _) (Nat.zero_le _) rfl) ad n c ((List.range n).map fun i => .string (S i)) hx (by simp) ?_ ?_ (by unfold maxLen; omega) (by omega) (by simp) ?_
  · intro j u hj
    rw [List.getElem?_map] at hj
    by_cases hjn : j < n
    · rw [List.getElem?_range hjn] at hj
      simp at hj
      rw [World.cell?_alloc_lt _ _ _ (World.block_lt_of_cell? _ _ (hc j hjn)), hc j hjn, hj]
    · rw [List.getElem?_eq_none (by simpa using hjn)] at hj
      simp at hj
  · intro u hu
    simp at hu
    obtain ⟨i, _, rfl⟩ := hu
    rfl
  · intro v' w' hown hgrow _
    have hb : Below w0.heap.size w0 w' := ((Below.refl _ w0).alloc (Nat.le_refl _) _).grown hgrow (by simp) (fun k hk => by simp [Value.ownBlock] at hk; omega)
    simp only [Nat.zero_add, List.nil_append] at hown
    rcases hown.2 with ⟨rfl, rfl⟩ | ⟨g, cap, cur, rfl, hg, _⟩
    · exact h none 0 w' hb (fun i hi => by omega)
    · refine h _ _ w' hb (fun i hi => ⟨g, rfl, hg, ?_⟩)
      rw [World.ownsRow.cellAt hown i (by omega)]
      simp [List.getElem?_map, List.getElem?_range hi]

set_option maxRecDepth 20000 in
theorem clone_nil (w : World) : Calls Ybaf.prog 4 #[.slice none 0 0] w fun e w' => e = .returned (.slice none 0 0) ∧ w' = w := by
  have hnil := fun w => Lib.run_eql_slice_nil (P := Ybaf.prog) w 24 9 none 0 0 0 0 Ybaf.underlying24
  go_enter Ybaf.func4, Ybaf.ntmps4
  go_wp2
  go_ret
  exact ⟨rfl, rfl⟩

set_option maxRecDepth 20000 in
set_option maxHeartbeats 400000 in
theorem clone_some (ad : Addr) (n c : Nat) (S : Nat → ByteArray) (w : World) (hn : n ≤ 8192) (hc : ∀ i, i < n → w.cell? (ad.add i) = some (.string (S i))) :
    Calls Ybaf.prog 4 #[.slice (some ad) n c] w fun e w' => ∃ ga gc, e = .returned (.slice ga n gc) ∧ Below w.heap.size w w' ∧ ∀ i, i < n → ∃ cb, ga = some ⟨cb, 0, none⟩ ∧ w.heap.size ≤ cb ∧ w'.cell? ⟨cb, i, none⟩ = some (.string (S i)) := by
  have hnil := fun w => Lib.run_eql_slice_nil (P := Ybaf.prog) w 24 9 (some ad) n c 0 0 Ybaf.underlying24
  have HC := hid hc
  clear hc
  go_enter Ybaf.func4, Ybaf.ntmps4
  go_wp2_with (at_builtin; refine wpList_clone w _ rfl (.tmp 5) (.tmp 6) rfl rfl rfl ad n c S rfl HC.out hn ?_; intro ga gc w1 hb hcells)
  go_ret
  exact ⟨ga, gc, rfl, hb, hcells⟩

/-! ### slices.Index -/
set_option maxHeartbeats 400000 in
theorem index_none (a0 : Option Addr) (n c : Nat) (S : Nat → ByteArray) (t : ByteArray) (w : World) (hn : n ≤ 8192) (hc : ∀ i, i < n → ∃ cb, a0 = some ⟨cb, 0, none⟩ ∧ w.cell? ⟨cb, i, none⟩ = some (.string (S i))) (hno : ∀ i, i < n → (S i).toList ≠ t.toList) :
    Calls Ybaf.prog 7 #[.slice a0 n c, .string t] w fun e w' => e = .returned (.int .i64 (-1)) ∧ w' = w := by
  go_enter Ybaf.func7, Ybaf.ntmps7
  go_wp2
  go_loop [8] (fun i => ∃ k : Nat, k ≤ n ∧ i = .int .i64 k) (fun i => n - (intOf i).toNat)
  case atStart => exact ⟨0, by omega, rfl⟩
  case round =>
    obtain ⟨k, hk, rfl⟩ := hrel
    by_cases hlt : k < n
    · obtain ⟨cb, rfl, hcb⟩ := hc k hlt
      have hne : (t.toList == (S k).toList) = false := by simp; exact fun e => hno k hlt e.symm
      clear hc hno
      go_wp2
      go_round
      case rel => exact ⟨k + 1, by omega, by go_num⟩
      case measure => simp [intOf]; omega
    · go_wp2
      go_ret
      exact ⟨rfl, rfl⟩

set_option maxHeartbeats 400000 in
theorem index_some (a0 : Option Addr) (n c K : Nat) (S : Nat → ByteArray) (t : ByteArray) (w : World) (hn : n ≤ 8192) (hc : ∀ i, i < n → ∃ cb, a0 = some ⟨cb, 0, none⟩ ∧ w.cell? ⟨cb, i, none⟩ = some (.string (S i))) (hK : K < n) (hhit : (S K).toList = t.toList) (hno : ∀ i, i < K → (S i).toList ≠ t.toList) :
    Calls Ybaf.prog 7 #[.slice a0 n c, .string t] w fun e w' => e = .returned (.int .i64 K) ∧ w' = w := by
  go_enter Ybaf.func7, Ybaf.ntmps7
  go_wp2
  go_loop [8] (fun i => ∃ k : Nat, k ≤ K ∧ i = .int .i64 k) (fun i => n - (intOf i).toNat)
  case atStart => exact ⟨0, by omega, rfl⟩
  case round =>
    obtain ⟨k, hk, rfl⟩ := hrel
    obtain ⟨cb, rfl, hcb⟩ := hc k (by omega)
    clear hc
    by_cases hlt : k < K
    · have hne : (t.toList == (S k).toList) = false := by simp; exact fun e => hno k hlt e.symm
      clear hno hhit
      go_wp2
      go_round
      case rel => exact ⟨k + 1, by omega, by go_num⟩
      case measure => simp [intOf]; omega
    · obtain rfl : k = K := by omega
      have hne : (t.toList == (S k).toList) = true := by simp [hhit]
      clear hno hhit
      go_wp2
      go_ret
      exact ⟨rfl, rfl⟩

end Go.Proofs.YbulkbypeFmt
