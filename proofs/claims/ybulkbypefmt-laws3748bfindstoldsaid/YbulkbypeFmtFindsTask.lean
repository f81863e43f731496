/-
  For LawS3748BFinds: the contract of (*journalState).task (function 5), in its three ways.
-/
import Derived.Test.YbulkbypeFmtFindsParts
namespace Go.Proofs.YbulkbypeFmt
open Go.RowKit Go.Extern.Stop Go.Stop Go.Extern Go.Maps
attribute [local go_sem] call8 guardOk fmt0 fmt0r fmt1 fmt1r op31 op40 op9 ptr61 elem61

theorem law31 : Keyed Ybaf.prog 31 := int_keyed Ybaf.underlying31
theorem zero39 (w : World) : (zeroValue 39).run Ybaf.prog w = .ok (.pointer none) w := by kernel_rfl

theorem ptrElem_inv0 {v : Value} {ps : List MemPlace} (h : ptrElem v = some (.lit (.bool false), ps)) : v = .pointer none := by
  unfold ptrElem at h
  split at h
  · simp at h
  · rfl
  · simp at h

/-- The look-up in the journal's map: not there. -/
theorem look_miss {mb n : Nat} {D : DataW Unit} {id : Int} {w : World} (hown : w.ownsMap Ybaf.prog 31 ptrElem mb n D) (hw : (Lit.int .u64 id).wf = true) (h : Maps.has D (.int .u64 id) = false) (m : Nat) :
    (Instr.lookup 28 (.map (some mb)) (.int .u64 id) true).run Ybaf.prog (w.drewN m) = .ok (.tuple #[.pointer none, .bool false]) (w.drewN m) := by
  have ho : (w.drewN m).ownsMap Ybaf.prog 31 ptrElem mb n D := hown
  obtain ⟨v, ps, hrun, hv⟩ := ho.look_ok law31 Ybaf.underlying28 (zero39 _) (zp := []) (zd := .lit (.bool false)) rfl (keyOf_int_mk Ybaf.underlying31 hw)
  rw [atKey_of_not_has h] at hv
  rw [hrun, h, ptrElem_inv0 hv]

/-- The look-up in the journal's map: there. -/
theorem look_hit {mb n E : Nat} {D : DataW Unit} {id : Int} {w : World} (hown : w.ownsMap Ybaf.prog 31 ptrElem mb n D) (hw : (Lit.int .u64 id).wf = true) (h : Maps.has D (.int .u64 id) = true) (hE : ∀ z, D.atKey (.int .u64 id) z = .lit (.int .u64 E)) (m : Nat) :
    (Instr.lookup 28 (.map (some mb)) (.int .u64 id) true).run Ybaf.prog (w.drewN m) = .ok (.tuple #[.pointer (some ⟨E, 0, none⟩), .bool true]) (w.drewN m) := by
  have ho : (w.drewN m).ownsMap Ybaf.prog 31 ptrElem mb n D := hown
  obtain ⟨v, ps, hrun, hv⟩ := ho.look_ok law31 Ybaf.underlying28 (zero39 _) (zp := []) (zd := .lit (.bool false)) rfl (keyOf_int_mk Ybaf.underlying31 hw)
  rw [hE] at hv
  rw [hrun, h, ptrElem_inv hv]

/-- The entry that the law hands to task. -/
abbrev qCells (id : Int) (t : ByteArray) : Array Value := #[.int .u8 5, .int .u64 id, .string t, .int .i64 0, .int .i64 0, .int .i64 0, .int .u32 0, .int .u64 0, .string ⟨#[]⟩, .slice none 0 0, .slice none 0 0, .int .i64 0, .int .i64 0, .string ⟨#[]⟩, .int .i64 0, .int .i64 0, .int .i64 0, .slice none 0 0]

theorem cell_keep {w : World} {o : Obj} {m : Nat} {a : Addr} {v : Value} (h : w.cell? a = some v) : ((w.alloc o).drewN m).cell? a = some v := by
  rw [World.cell?_drewN, World.cell?_alloc_lt _ _ _ (World.block_lt_of_cell? _ _ h)]
  exact h

set_option maxRecDepth 20000 in
set_option maxHeartbeats 400000 in
theorem task_miss (F : Interp) (st mb n : Nat) (D : DataW Unit) (id : Int) (t : ByteArray) (w : World) (hF : F.answers w.tape) (hst : w.cell? ⟨st, 1, none⟩ = some (.map (some mb))) (hown : w.ownsMap Ybaf.prog 31 ptrElem mb n D) (hw : (Lit.int .u64 id).wf = true)
    (hmiss : Maps.has D (.int .u64 id) = false) :
    Calls Ybaf.prog 5 #[.pointer (some ⟨st, 0, none⟩), .agg (qCells id t)] w fun e w' => ∃ a, e = .returned (.tuple #[.pointer none, .iface 61 (.pointer (some a))]) ∧ Below w.heap.size w w' := by
  have hF' := answers_open hF
  have hlt := World.block_lt_of_cell? _ _ hst
  have hlk := look_miss (hown.alloc (.cells (qCells id t) 48)) hw hmiss
  clear hown hmiss hF hw
  go_enter Ybaf.func5, Ybaf.ntmps5
  go_wp2
  go_quiet (fail)
  go_wp2
  go_ret2
  refine ⟨_, rfl, ?_⟩
  exact (((below_drewN ((Below.refl _ w).alloc (Nat.le_refl _) _) _).alloc (by simp) _).alloc (by simp; omega) _).drew

set_option maxRecDepth 20000 in
set_option maxHeartbeats 400000 in
theorem task_nohit (F : Interp) (st mb n E nt gc : Nat) (ga : Option Addr) (S : Nat → ByteArray) (D : DataW Unit) (id : Int) (t : ByteArray) (w : World) (hF : F.answers w.tape) (hst : w.cell? ⟨st, 1, none⟩ = some (.map (some mb))) (hown : w.ownsMap Ybaf.prog 31 ptrElem mb n D) (hw : (Lit.int .u64 id).wf = true)
    (hhas : Maps.has D (.int .u64 id) = true) (hE : ∀ z, D.atKey (.int .u64 id) z = .lit (.int .u64 E)) (h10 : w.cell? ⟨E, 10, none⟩ = some (.slice ga nt gc)) (hnt : nt ≤ 8192)
    (hc : ∀ i, i < nt → ∃ cb, ga = some ⟨cb, 0, none⟩ ∧ w.cell? ⟨cb, i, none⟩ = some (.string (S i))) (hno : ∀ i, i < nt → (S i).toList ≠ t.toList) :
    Calls Ybaf.prog 5 #[.pointer (some ⟨st, 0, none⟩), .agg (qCells id t)] w fun e w' => ∃ a, e = .returned (.tuple #[.pointer none, .iface 61 (.pointer (some a))]) ∧ Below w.heap.size w w' := by
  have hlt := World.block_lt_of_cell? _ _ hst
  have hlt2 := World.block_lt_of_cell? _ _ h10
  have hlk := look_hit (hown.alloc (.cells (qCells id t) 48)) hw hhas hE
  have HC := hid hc
  have HN := hid hno
  clear hown hhas hw hE hc hno
  go_enter Ybaf.func5, Ybaf.ntmps5
  go_wp2
  go_quiet (fail)
  go_wp2
  refine gen_world ?_
  intro W1 hW1
  have g10 : W1.cell? ⟨E, 10, none⟩ = some (.slice ga nt gc) := by rw [hW1]; exact cell_keep h10
  have b1 : W1.cell? ⟨w.heap.size, 1, none⟩ = some (.int .u64 id) := by rw [hW1, World.cell?_drewN, World.cell?_alloc_at _ _ _ _ rfl]; rfl
  have b2 : W1.cell? ⟨w.heap.size, 2, none⟩ = some (.string t) := by rw [hW1, World.cell?_drewN, World.cell?_alloc_at _ _ _ _ rfl]; rfl
  have hb1 : Below w.heap.size w W1 := by rw [hW1]; exact below_drewN ((Below.refl _ w).alloc (Nat.le_refl _) _) _
  have hs1 : w.heap.size < W1.heap.size := by rw [hW1]; simp
  have hFW : F.answers W1.tape := by rw [hb1.tape]; exact hF
  have hF1 := answers_open hFW
  have hix : ∀ m, Calls Ybaf.prog 7 #[.slice ga nt gc, .string t] (W1.drewN m) fun e w' => e = .returned (.int .i64 (-1)) ∧ w' = W1.drewN m := fun m =>
    index_none ga nt gc S t _ hnt (fun i hi => by
      obtain ⟨cb, h1, h2⟩ := HC.out i hi
      exact ⟨cb, h1, by rw [World.cell?_drewN, hW1]; exact cell_keep h2⟩) HN.out
  have HX := hid hix
  have HB := hid hb1
  clear hix hW1 hlk hFW hb1 hst h10
  go_quiet ((go_at_call 7; exact Calls.quiet_of_same (HX.out _)))
  generalize hW2 : W1.drewN nq = W2
  have d1 : W2.cell? ⟨w.heap.size, 1, none⟩ = some (.int .u64 id) := by rw [← hW2]; exact b1
  have d2 : W2.cell? ⟨w.heap.size, 2, none⟩ = some (.string t) := by rw [← hW2]; exact b2
  have hb2 : Below w.heap.size w W2 := by rw [← hW2]; exact below_drewN HB.out _
  have hs2 : w.heap.size < W2.heap.size := by rw [← hW2]; exact hs1
  have hFW : F.answers W2.tape := by rw [hb2.tape]; exact hF
  have hF2 := answers_open hFW
  have HB2 := hid hb2
  clear hW2 hF1 b1 b2 g10 hs1 hFW hb2 HX HB
  go_wp2
  go_ret2
  refine ⟨_, rfl, ?_⟩
  exact ((HB2.out.alloc (by omega) _).alloc (by simp; omega) _).drew

set_option maxRecDepth 20000 in
set_option maxHeartbeats 400000 in
theorem task_hit (st mb n E nt gc tk K : Nat) (ga : Option Addr) (S : Nat → ByteArray) (D : DataW Unit) (id : Int) (t : ByteArray) (w : World) (hst : w.cell? ⟨st, 1, none⟩ = some (.map (some mb))) (hown : w.ownsMap Ybaf.prog 31 ptrElem mb n D) (hw : (Lit.int .u64 id).wf = true)
    (hhas : Maps.has D (.int .u64 id) = true) (hE : ∀ z, D.atKey (.int .u64 id) z = .lit (.int .u64 E)) (h10 : w.cell? ⟨E, 10, none⟩ = some (.slice ga nt gc)) (h17 : w.cell? ⟨E, 17, none⟩ = some (.slice (some ⟨tk, 0, none⟩) nt nt)) (hnt : nt ≤ 8192)
    (hc : ∀ i, i < nt → ∃ cb, ga = some ⟨cb, 0, none⟩ ∧ w.cell? ⟨cb, i, none⟩ = some (.string (S i))) (hK : K < nt) (hhit : (S K).toList = t.toList) (hno : ∀ i, i < K → (S i).toList ≠ t.toList) :
    Calls Ybaf.prog 5 #[.pointer (some ⟨st, 0, none⟩), .agg (qCells id t)] w fun e w' => e = .returned (.tuple #[.pointer (some ⟨tk, K * 3, none⟩), .nilIface]) ∧ Below w.heap.size w w' := by
  have hlt := World.block_lt_of_cell? _ _ hst
  have hlt2 := World.block_lt_of_cell? _ _ h10
  have hlk := look_hit (hown.alloc (.cells (qCells id t) 48)) hw hhas hE
  have HC := hid hc
  have HN := hid hno
  have HH := hid hhit
  clear hown hhas hw hE hc hno hhit
  go_enter Ybaf.func5, Ybaf.ntmps5
  go_wp2
  go_quiet (fail)
  go_wp2
  refine gen_world ?_
  intro W1 hW1
  have g10 : W1.cell? ⟨E, 10, none⟩ = some (.slice ga nt gc) := by rw [hW1]; exact cell_keep h10
  have g17 : W1.cell? ⟨E, 17, none⟩ = some (.slice (some ⟨tk, 0, none⟩) nt nt) := by rw [hW1]; exact cell_keep h17
  have b1 : W1.cell? ⟨w.heap.size, 1, none⟩ = some (.int .u64 id) := by rw [hW1, World.cell?_drewN, World.cell?_alloc_at _ _ _ _ rfl]; rfl
  have b2 : W1.cell? ⟨w.heap.size, 2, none⟩ = some (.string t) := by rw [hW1, World.cell?_drewN, World.cell?_alloc_at _ _ _ _ rfl]; rfl
  have hb1 : Below w.heap.size w W1 := by rw [hW1]; exact below_drewN ((Below.refl _ w).alloc (Nat.le_refl _) _) _
  have hix : ∀ m, Calls Ybaf.prog 7 #[.slice ga nt gc, .string t] (W1.drewN m) fun e w' => e = .returned (.int .i64 K) ∧ w' = W1.drewN m := fun m =>
    index_some ga nt gc K S t _ hnt (fun i hi => by
      obtain ⟨cb, h1, h2⟩ := HC.out i hi
      exact ⟨cb, h1, by rw [World.cell?_drewN, hW1]; exact cell_keep h2⟩) hK HH.out HN.out
  have HX := hid hix
  have HB := hid hb1
  clear hix hW1 hlk hb1 hst h10 h17
  go_quiet ((go_at_call 7; exact Calls.quiet_of_same (HX.out _)))
  go_wp2
  go_ret2
  exact ⟨rfl, below_drewN HB.out _⟩

end Go.Proofs.YbulkbypeFmt
