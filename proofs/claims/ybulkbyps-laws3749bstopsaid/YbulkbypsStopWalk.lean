/-
  The walk of plan.LawS3749BStop (function 4).
-/
import Derived.Test.YbulkbypsStopTail
namespace Go.Proofs.Ybulkbyps
open Go.RowKit Go.Maps

set_option maxHeartbeats 400000 in
theorem stop_long (name : ByteArray) (a : Option Addr) (n c : Nat) (kb : Int) (w : World) (h : 1024 < n) (hm : n ≤ maxLen) :
    Calls Yba.prog 4 #[.string name, .slice a n c, .int .u8 kb] w fun e w' => e = .returned (.bool true) ∧ Below w.heap.size w w' := by
  unfold maxLen at hm
  go_enter Yba.func4, Yba.ntmps4
  go_wp2
  go_ret
  exact ⟨rfl, Below.refl _ _⟩

set_option maxRecDepth 20000 in
set_option maxHeartbeats 1000000 in
theorem stop_mid {u2 u3 u4 u5 u6 u8 u9 u10 u11 u12 u13 u14 u15 u16 u17 u18 u19 u20 u21 u22 u23 u24 u25 u26 u27 u28 u29 u30 u31 u32 u33 u34 u35 u36 u37 u38 u39 u40 u41 u42 u43 u44 u45 u46 u47 u48 u49 u50 u51 : Value} {a : Option Addr} {n c : Nat} {name : ByteArray} (S : Nat → ByteArray) (limit : Nat) (w : World) (hn : n ≤ 1024) (h1 : 1 ≤ limit) (h2 : limit ≤ 11) (hsz : name.size ≤ maxLen) (hA : (a = none ∧ n = 0 ∧ c = 0) ∨ ∃ ad, a = some ad) (hS : Strs w a n S) :
    Code.wp Yba.prog (sndN 4 (Yba.f4.body.getD .skip)) (bodyPost Yba.prog Yba.f4 fun e w' => e = .returned (.bool true) ∧ Below w.heap.size w w') ⟨((Value.string name) :: (Value.slice a n c) :: u2 :: u3 :: u4 :: u5 :: u6 :: (Value.pointer (some ⟨w.heap.size, 0, none⟩)) :: u8 :: u9 :: u10 :: u11 :: u12 :: u13 :: u14 :: u15 :: u16 :: u17 :: u18 :: u19 :: u20 :: u21 :: u22 :: u23 :: u24 :: u25 :: u26 :: u27 :: u28 :: u29 :: u30 :: u31 :: u32 :: u33 :: u34 :: u35 :: u36 :: u37 :: u38 :: u39 :: u40 :: u41 :: u42 :: u43 :: u44 :: u45 :: u46 :: u47 :: u48 :: u49 :: u50 :: u51 :: ([] : List Value)).toArray, []⟩ (w.alloc (.cells #[.int .i64 limit] 3)) := by
  have HS := hid hS
  have HA := hid hA
  have HSz := hid hsz
  have hmm := @run_makeMap Yba.prog
  have HMade := hid (World.ownsMap_made (w.alloc (.cells #[.int .i64 limit] 3)) Yba.prog 9 slElem)
  clear hS hA hsz
  refine wp_seq_k (x := fstN 4 (Yba.f4.body.getD .skip)) (y := sndN 5 (Yba.f4.body.getD .skip)) (fun K4 hK4 => ?_)
  simp only [Yba.f4, Option.getD_some, fstN]
  go_wp2
  refine wp_seq_k (x := fstN 5 (Yba.f4.body.getD .skip)) (y := sndN 6 (Yba.f4.body.getD .skip)) (fun K5 hK5 => ?_)
  refine gen_world ?_
  intro W hW
  have ht : W.cell? ⟨w.heap.size, 0, none⟩ = some (.int .i64 limit) := by
    rw [hW, World.cell?_alloc_past _ _ _ (by simp; omega), World.cell?_alloc_past _ _ _ (by simp), World.cell?_alloc_at _ _ _ _ rfl]; rfl
  have cm : W.cell? ⟨w.heap.size + 1 + 1, 11, none⟩ = some (.map (some (w.heap.size + 1))) := by
    rw [hW, World.cell?_alloc_at _ _ _ _ (by simp)]; rfl
  have hown : W.ownsMap Yba.prog 9 slElem (w.heap.size + 1) 0 (.map []) := by
    rw [hW]
    have := HMade.out.alloc (.cells #[.pointer none, .pointer none, .string ⟨#[]⟩, .map none, .map none, .bool false, .map none, .slice none 0 0, .map none, .slice none 0 0, .map none, .map (some (w.heap.size + 1)), .map none, .slice none 0 0, .bool false, .int .i64 0, .map none, .pointer none] 35)
    simpa using this
  have hb : Below w.heap.size w W := by
    rw [hW]; exact (((Below.refl _ w).alloc (Nat.le_refl _) _).alloc (by simp) _).alloc (by simp; omega) _
  have hsW : W.heap.size = w.heap.size + 3 := by rw [hW]; simp
  have HB := hid hb
  have HO := hid hown
  have HT := hid ht
  have HSW := hid hsW
  clear hW hmm HMade hb hown ht hsW
  simp only [Yba.f4, Option.getD_some, fstN]
  have hb' : Below w.heap.size w W.drew := HB.out.drew
  have HSd := hid (HS.out.below hb')
  have cmd : W.drew.cell? ⟨w.heap.size + 1 + 1, 11, none⟩ = some (.map (some (w.heap.size + 1))) := cm
  have HOd : Hid (W.drew.ownsMap Yba.prog 9 slElem (w.heap.size + 1) 0 (.map [])) := hid HO.out.drew
  clear hb' cm
  go_region_with (go_at_call 5; refine (copy_el a n c S _ hn HA.out HSd.out).mono ?_; rintro e w1 ⟨ga, gc, d, rfl, hE, hb1, hrows⟩; have cm1 := (hb1.cell (World.block_lt_of_cell? _ _ cmd)).trans cmd; obtain ⟨w2, hrun, hown2, hg2⟩ := (ownsMap_later HOd.out hb1).update law9 Yba.underlying25 (by decide) (Go.WideMaps.keyOf_string_mk Yba.underlying9 HSz.out) hE)
  all_goals refine hK5 _ _ ?_
  all_goals clear hK5
  all_goals
    have hsz1 : W.drew.heap.size = w.heap.size + 3 := HSW.out
    have hbw1 : Below w.heap.size w w1 := HB.out.drew.trans (hb1.mono (by omega))
    have hB2 : Below w.heap.size w w2 := hbw1.grown hg2 hbw1.size (fun j hj => by cases hj; omega)
    have ht2 : w2.cell? ⟨w.heap.size, 0, none⟩ = some (.int .i64 limit) :=
      (cell_block (w := w1) ((hb1.cell (World.block_lt_of_cell? _ _ HT.out)).trans HT.out) (hg2.block _ (by have := hb1.size; omega) (by simp)))
    have cm2 : w2.cell? ⟨w.heap.size + 1 + 1, 11, none⟩ = some (.map (some (w.heap.size + 1))) :=
      (cell_block cm1 (hg2.block _ (by have := hb1.size; omega) (by simp)))
    exact stop_tail S limit (w.heap.size + 1) 1 ga gc ((DataW.map []).put (.string name.data.toList) d) d w2 w hn h1 h2 HSz.out hB2 HS.out ht2 cm2 hown2 hE (fun z => atKey_put_same (k := .string name.data.toList) isMap_empty trivial d z) (fun i hi => by
      obtain ⟨g, e, hg, hc⟩ := hrows i hi
      have hgl := World.block_lt_of_cell? _ _ hc
      exact ⟨g, e, cell_block hc (hg2.block g hgl (by simp; omega))⟩)

set_option maxRecDepth 20000 in
set_option maxHeartbeats 1000000 in
theorem stop_short (name : ByteArray) (a : Option Addr) (n c : Nat) (kb : Int) (S : Nat → ByteArray) (w : World) (hn : n ≤ 1024) (h0 : 0 ≤ kb) (h9 : kb ≤ 255) (hsz : name.size ≤ maxLen) (hA : (a = none ∧ n = 0 ∧ c = 0) ∨ ∃ ad, a = some ad) (hS : Strs w a n S) :
    Calls Yba.prog 4 #[.string name, .slice a n c, .int .u8 kb] w fun e w' => e = .returned (.bool true) ∧ Below w.heap.size w w' := by
  have HS := hid hS
  have HA := hid hA
  have HSz := hid hsz
  have Hkb := hid h9
  clear hS hA hsz h9
  go_enter Yba.func4, Yba.ntmps4
  refine (show Code.wp Yba.prog (sndN 0 (Yba.f4.body.getD .skip)) (bodyPost Yba.prog Yba.f4 fun e w' => e = .returned (.bool true) ∧ Below w.heap.size w w') _ _ from ?_)
  refine wp_seq_k (x := fstN 0 (Yba.f4.body.getD .skip)) (y := sndN 1 (Yba.f4.body.getD .skip)) (fun K0 hK0 => ?_)
  simp only [Yba.f4, Option.getD_some, fstN]
  go_wp2
  refine wp_seq_k (x := fstN 1 (Yba.f4.body.getD .skip)) (y := sndN 2 (Yba.f4.body.getD .skip)) (fun K1 hK1 => ?_)
  simp only [Yba.f4, Option.getD_some, fstN]
  go_wp2
  refine wp_seq_k (x := fstN 2 (Yba.f4.body.getD .skip)) (y := sndN 3 (Yba.f4.body.getD .skip)) (fun K2 hK2 => ?_)
  simp only [Yba.f4, Option.getD_some, fstN]
  go_wp2
  refine wp_seq_k (x := fstN 3 (Yba.f4.body.getD .skip)) (y := sndN 4 (Yba.f4.body.getD .skip)) (fun K3 hK3 => ?_)
  simp only [Yba.f4, Option.getD_some, fstN]
  have Hw : Hid (wrap64 kb = kb) := hid (by unfold wrap64; have := Hkb.out; omega)
  have Hx : Hid (kb.tmod 12 = kb % 12) := hid (by rw [Int.tmod_eq_emod_of_nonneg h0])
  by_cases hk : (wrap64 kb).tmod 12 < 1
  · go_wp2
    exact stop_mid S 1 w hn (by omega) (by omega) HSz.out HA.out HS.out
  · go_wp2
    rw [Hw.out, Hx.out] at hk ⊢
    have e : kb % 12 = ((kb % 12).toNat : Int) := by omega
    rw [e]
    exact stop_mid S (kb % 12).toNat w hn (by omega) (by omega) HSz.out HA.out HS.out

end Go.Proofs.Ybulkbyps
