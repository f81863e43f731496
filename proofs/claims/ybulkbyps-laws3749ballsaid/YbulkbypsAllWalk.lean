/-
  The walk of plan.LawS3749BAll (function 3).
-/
import Derived.Test.YbulkbypsAllRange
namespace Go.Proofs.Ybulkbyps
open Go.RowKit Go.Maps Go.Shelf

set_option maxHeartbeats 400000 in
theorem all_long (name : ByteArray) (a a2 : Option Addr) (n c n2 c2 : Nat) (w : World) (h : 1024 < n ∨ 1024 < n2) (hm : n ≤ maxLen) (hm2 : n2 ≤ maxLen) :
    Calls Yba.prog 3 #[.string name, .slice a n c, .slice a2 n2 c2] w fun e w' => e = .returned (.bool true) ∧ Below w.heap.size w w' := by
  unfold maxLen at hm hm2
  by_cases hn : 1024 < n
  · clear h
    go_enter Yba.func3, Yba.ntmps3
    go_wp2
    go_ret
    exact ⟨rfl, Below.refl _ _⟩
  · have h2 : 1024 < n2 := by omega
    clear h
    go_enter Yba.func3, Yba.ntmps3
    go_wp2
    go_ret
    exact ⟨rfl, Below.refl _ _⟩

set_option maxRecDepth 20000 in
set_option maxHeartbeats 1000000 in
theorem all_six {u2 u3 u4 u5 u6 u7 u9 u10 u11 u12 u13 u14 u15 u16 u17 u18 u19 u20 u21 u22 u23 u24 u25 u26 u27 u28 u29 u30 u31 u32 u33 u34 u35 u36 u37 u38 u39 u40 u41 u42 u43 u44 u45 u46 u47 u48 u49 u50 u51 u52 u53 u54 u55 u56 u57 u58 u59 : Value} {a : Option Addr} {n c P : Nat} {name : ByteArray} (S : Nat → ByteArray) (mb kk : Nat) (ga : Option Addr) (gc : Nat) (D d : DataW Unit) (W w : World) (hn : n ≤ 1024) (hsz : name.size ≤ maxLen)
    (hb : Below w.heap.size w W) (hS : Strs w a n S) (cm : W.cell? ⟨P, 11, none⟩ = some (.map (some mb))) (hown : W.ownsMap Yba.prog 9 slElem mb kk D) (hE : slElem (.slice ga n gc) = some (d, [])) (hat : ∀ z, D.atKey (.string name.data.toList) z = d)
    (rows : ∀ i, i < n → ∃ g, ga = some ⟨g, 0, none⟩ ∧ W.cell? ⟨g, i, none⟩ = some (.string (S i))) :
    Code.wp Yba.prog (sndN 6 (Yba.f3.body.getD .skip)) (okPost <| bodyPostM Fence.wide 3 Yba.prog Yba.f3 fun e w' => e = .returned (.bool true) ∧ Below w.heap.size w w') { tmps := ((Value.string name) :: (Value.slice a n c) :: u2 :: u3 :: u4 :: u5 :: u6 :: u7 :: (Value.pointer (some ⟨P, 0, none⟩)) :: u9 :: u10 :: u11 :: u12 :: u13 :: u14 :: u15 :: u16 :: u17 :: u18 :: u19 :: u20 :: u21 :: u22 :: u23 :: u24 :: u25 :: u26 :: u27 :: u28 :: u29 :: u30 :: u31 :: u32 :: u33 :: u34 :: u35 :: u36 :: u37 :: u38 :: u39 :: u40 :: u41 :: u42 :: u43 :: u44 :: u45 :: u46 :: u47 :: u48 :: u49 :: u50 :: u51 :: u52 :: u53 :: u54 :: u55 :: u56 :: u57 :: u58 :: u59 :: ([] : List Value)).toArray, defers := [] } W := by
  have hb1 : Below W.heap.size W (W.alloc (.cells #[.slice none 0 0] 22)) := (Below.refl _ W).alloc (Nat.le_refl _) _
  refine wp_seq_k (x := fstN 6 (Yba.f3.body.getD .skip)) (y := sndN 7 (Yba.f3.body.getD .skip)) (fun K6 hK6 => ?_)
  simp only [Yba.f3, Option.getD_some, fstN]
  go_wp2
  exact all_range (gb := W.heap.size) S mb kk ga gc D d (W.alloc (.cells #[.slice none 0 0] 22)) w hn hsz (hb.trans (hb1.mono hb.size)) hS ((hb1.cell (World.block_lt_of_cell? _ _ cm)).trans cm) (ownsMap_later hown hb1) hE hat (fun i hi => by
    obtain ⟨g, e, hc⟩ := rows i hi
    exact ⟨g, e, World.block_lt_of_cell? _ _ hc, (hb1.cell (World.block_lt_of_cell? _ _ hc)).trans hc⟩) (World.block_lt_of_cell? _ _ cm) hown.lt hb.size (Boxed.new W 22 _)

theorem key_zero {name : ByteArray} (h : name.size + 1 ≤ maxLen) : keyOf Yba.prog 9 (.string (name ++ ⟨#[0]⟩)) = some (.string (name ++ ⟨#[0]⟩).data.toList) :=
  Go.WideMaps.keyOf_string_mk Yba.underlying9 (by rw [ByteArray.size_append]; exact h)
theorem key_ne (name : ByteArray) : Lit.string name.data.toList ≠ .string (name ++ ⟨#[0]⟩).data.toList := by
  intro e
  simp only [Lit.string.injEq] at e
  have := congrArg List.length e
  simp [ByteArray.data_append] at this

set_option maxRecDepth 20000 in
set_option maxHeartbeats 1000000 in
theorem all_mid {u3 u4 u5 u6 u7 u9 u10 u11 u12 u13 u14 u15 u16 u17 u18 u19 u20 u21 u22 u23 u24 u25 u26 u27 u28 u29 u30 u31 u32 u33 u34 u35 u36 u37 u38 u39 u40 u41 u42 u43 u44 u45 u46 u47 u48 u49 u50 u51 u52 u53 u54 u55 u56 u57 u58 u59 : Value} {a a2 : Option Addr} {n c n2 c2 P : Nat} {name : ByteArray} (S S2 : Nat → ByteArray) (mb : Nat) (ga : Option Addr) (gc : Nat) (d : DataW Unit) (W w : World) (hn : n ≤ 1024) (hn2 : n2 ≤ 1024) (hsz : name.size + 1 ≤ maxLen)
    (hb : Below w.heap.size w W) (hS : Strs w a n S) (hA2 : (a2 = none ∧ n2 = 0 ∧ c2 = 0) ∨ ∃ ad, a2 = some ad) (hS2 : Strs w a2 n2 S2) (cm : W.cell? ⟨P, 11, none⟩ = some (.map (some mb))) (hmb : w.heap.size ≤ mb) (hown : W.ownsMap Yba.prog 9 slElem mb 1 ((DataW.map []).put (.string name.data.toList) d)) (hE : slElem (.slice ga n gc) = some (d, []))
    (rows : ∀ i, i < n → ∃ g, ga = some ⟨g, 0, none⟩ ∧ g ≠ mb ∧ W.cell? ⟨g, i, none⟩ = some (.string (S i))) (hPm : P ≠ mb) :
    Code.wp Yba.prog (sndN 5 (Yba.f3.body.getD .skip)) (okPost <| bodyPostM Fence.wide 3 Yba.prog Yba.f3 fun e w' => e = .returned (.bool true) ∧ Below w.heap.size w w') { tmps := ((Value.string name) :: (Value.slice a n c) :: (Value.slice a2 n2 c2) :: u3 :: u4 :: u5 :: u6 :: u7 :: (Value.pointer (some ⟨P, 0, none⟩)) :: u9 :: u10 :: u11 :: u12 :: u13 :: u14 :: u15 :: u16 :: u17 :: u18 :: u19 :: u20 :: u21 :: u22 :: u23 :: u24 :: u25 :: u26 :: u27 :: u28 :: u29 :: u30 :: u31 :: u32 :: u33 :: u34 :: u35 :: u36 :: u37 :: u38 :: u39 :: u40 :: u41 :: u42 :: u43 :: u44 :: u45 :: u46 :: u47 :: u48 :: u49 :: u50 :: u51 :: u52 :: u53 :: u54 :: u55 :: u56 :: u57 :: u58 :: u59 :: ([] : List Value)).toArray, defers := [] } W := by
  have HS := hid hS
  have HA := hid hA2
  have HSz := hid hsz
  have HB := hid hb
  have HO := hid hown
  have HE := hid hE
  have HR := hid rows
  have HCm := hid cm
  have HKey := hid (key_zero hsz)
  have hnl : name.size + 1 ≤ 9223372036854775807 := by unfold maxLen at hsz; omega
  have HSd := hid (hS2.below (w' := W.drew) hb.drew)
  have cmd : W.drew.cell? ⟨P, 11, none⟩ = some (.map (some mb)) := cm
  have HOd : Hid (W.drew.ownsMap Yba.prog 9 slElem mb 1 ((DataW.map []).put (.string name.data.toList) d)) := hid hown.drew
  clear hS hA2 hS2 hsz hb hown hE rows cm
  refine wp_seq_k (x := fstN 5 (Yba.f3.body.getD .skip)) (y := sndN 6 (Yba.f3.body.getD .skip)) (fun K5 hK5 => ?_)
  simp only [Yba.f3, Option.getD_some, fstN]
  go_region_with (go_at_call 5; refine (copy_el a2 n2 c2 S2 _ hn2 HA.out HSd.out).mono ?_; rintro e w1 ⟨ga2, gc2, d2, rfl, hE2, hb1, hrows2⟩; have cm1 := (hb1.cell (World.block_lt_of_cell? _ _ cmd)).trans cmd; obtain ⟨w2, hrun, hown2, hg2⟩ := (ownsMap_later HOd.out hb1).update law9 Yba.underlying25 (by decide) (key := .string (name ++ ⟨#[0]⟩)) HKey.out hE2)
  all_goals
    refine hK5 _ _ ?_
    have hbW : Below W.heap.size W w1 := (Below.refl _ W).drew.trans hb1
    have hbw1 : Below w.heap.size w w1 := HB.out.trans (hbW.mono HB.out.size)
    have hB2 : Below w.heap.size w w2 := hbw1.grown hg2 hbw1.size (fun j hj => by cases hj; exact hmb)
    have hne : ∀ b, b ≠ mb → b < w1.heap.size → w2.heap[b]? = w1.heap[b]? := fun b h h2 => hg2.block b h2 (by simpa using h)
    exact all_six S mb 2 ga gc _ d w2 w hn (by have := HSz.out; omega) hB2 HS.out (cell_block cm1 (hne P hPm (World.block_lt_of_cell? _ _ cm1))) hown2 HE.out (fun z => by rw [atKey_put_other (key_ne name)]; exact atKey_put_same (k := .string name.data.toList) isMap_empty trivial d z) (fun i hi => by
      obtain ⟨g, e, hgm, hc⟩ := HR.out i hi
      have hc1 := (hbW.cell (World.block_lt_of_cell? _ _ hc)).trans hc
      exact ⟨g, e, cell_block hc1 (hne g hgm (World.block_lt_of_cell? _ _ hc1))⟩)

set_option maxRecDepth 20000 in
set_option maxHeartbeats 1000000 in
theorem all_four {u3 u4 u5 u6 u8 u9 u10 u11 u12 u13 u14 u15 u16 u17 u18 u19 u20 u21 u22 u23 u24 u25 u26 u27 u28 u29 u30 u31 u32 u33 u34 u35 u36 u37 u38 u39 u40 u41 u42 u43 u44 u45 u46 u47 u48 u49 u50 u51 u52 u53 u54 u55 u56 u57 u58 u59 : Value} {a a2 : Option Addr} {n c n2 c2 : Nat} {name : ByteArray} (S S2 : Nat → ByteArray) (ga : Option Addr) (gc : Nat) (d : DataW Unit) (W w : World) (hn : n ≤ 1024) (hn2 : n2 ≤ 1024) (hsz : name.size + 1 ≤ maxLen)
    (hb : Below w.heap.size w W) (hS : Strs w a n S) (hA2 : (a2 = none ∧ n2 = 0 ∧ c2 = 0) ∨ ∃ ad, a2 = some ad) (hS2 : Strs w a2 n2 S2) (hE : slElem (.slice ga n gc) = some (d, []))
    (rows : ∀ i, i < n → ∃ g, ga = some ⟨g, 0, none⟩ ∧ W.cell? ⟨g, i, none⟩ = some (.string (S i))) :
    Code.wp Yba.prog (sndN 3 (Yba.f3.body.getD .skip)) (okPost <| bodyPostM Fence.wide 3 Yba.prog Yba.f3 fun e w' => e = .returned (.bool true) ∧ Below w.heap.size w w') { tmps := ((Value.string name) :: (Value.slice a n c) :: (Value.slice a2 n2 c2) :: u3 :: u4 :: u5 :: u6 :: (Value.slice ga n gc) :: u8 :: u9 :: u10 :: u11 :: u12 :: u13 :: u14 :: u15 :: u16 :: u17 :: u18 :: u19 :: u20 :: u21 :: u22 :: u23 :: u24 :: u25 :: u26 :: u27 :: u28 :: u29 :: u30 :: u31 :: u32 :: u33 :: u34 :: u35 :: u36 :: u37 :: u38 :: u39 :: u40 :: u41 :: u42 :: u43 :: u44 :: u45 :: u46 :: u47 :: u48 :: u49 :: u50 :: u51 :: u52 :: u53 :: u54 :: u55 :: u56 :: u57 :: u58 :: u59 :: ([] : List Value)).toArray, defers := [] } W := by
  have hmm := @run_makeMap Yba.prog
  have HMade := hid (World.ownsMap_made W Yba.prog 9 slElem)
  have HS := hid hS
  have HA := hid hA2
  have HS2 := hid hS2
  have HR := hid rows
  have HB0 := hid hb
  have HSz := hid hsz
  have HE := hid hE
  clear hS hA2 hS2 rows hb hsz hE
  refine wp_seq_k (x := fstN 3 (Yba.f3.body.getD .skip)) (y := sndN 4 (Yba.f3.body.getD .skip)) (fun K3 hK3 => ?_)
  simp only [Yba.f3, Option.getD_some, fstN]
  go_wp2
  refine gen_world ?_
  intro W1 hW1
  have cm : W1.cell? ⟨W.heap.size + 1, 11, none⟩ = some (.map (some W.heap.size)) := by
    rw [hW1, World.cell?_alloc_at _ _ _ _ (by simp)]; rfl
  have hown : W1.ownsMap Yba.prog 9 slElem W.heap.size 0 (.map []) := by
    rw [hW1]
    have := HMade.out.alloc (.cells #[.pointer none, .pointer none, .string ⟨#[]⟩, .map none, .map none, .bool false, .map none, .slice none 0 0, .map none, .slice none 0 0, .map none, .map (some W.heap.size), .map none, .slice none 0 0, .bool false, .int .i64 0, .map none, .pointer none] 35)
    simpa using this
  have hb1 : Below W.heap.size W W1 := by
    rw [hW1]; exact ((Below.refl _ W).alloc (Nat.le_refl _) _).alloc (by simp) _
  obtain ⟨w2, hrun, hown2, hg2⟩ := hown.update law9 Yba.underlying25 (by decide) (Go.WideMaps.keyOf_string_mk Yba.underlying9 (s := name) (by have := HSz.out; omega)) HE.out
  have HB1 := hid hb1
  have HO2 := hid hown2
  have HG2 := hid hg2
  clear hW1 hmm HMade hb1 hown hown2 hg2
  refine wp_seq_k (x := fstN 4 (Yba.f3.body.getD .skip)) (y := sndN 5 (Yba.f3.body.getD .skip)) (fun K4 hK4 => ?_)
  simp only [Yba.f3, Option.getD_some, fstN]
  go_wp2
  have hbw := HB0.out.trans (HB1.out.mono HB0.out.size)
  have hlt := World.block_lt_of_cell? _ _ cm
  exact all_mid (P := W.heap.size + 1) S S2 W.heap.size ga gc d w2 w hn hn2 HSz.out (hbw.grown HG2.out hbw.size (fun j hj => by cases hj; exact HB0.out.size)) HS.out HA.out HS2.out (cell_block cm (HG2.out.block _ hlt (by simp))) HB0.out.size HO2.out HE.out (fun i hi => by
    obtain ⟨g, e, hc⟩ := HR.out i hi
    have hlt := World.block_lt_of_cell? _ _ hc
    have hne : g ≠ W.heap.size := by simp at hlt; omega
    have hc1 := (HB1.out.cell hlt).trans hc
    exact ⟨g, e, hne, cell_block hc1 (HG2.out.block g (World.block_lt_of_cell? _ _ hc1) (by simpa using hne))⟩) (by omega)

set_option maxRecDepth 20000 in
set_option maxHeartbeats 1000000 in
theorem all_short (name : ByteArray) (a a2 : Option Addr) (n c n2 c2 : Nat) (S S2 : Nat → ByteArray) (w : World) (hn : n ≤ 1024) (hn2 : n2 ≤ 1024) (hsz : name.size + 1 ≤ maxLen) (hA : (a = none ∧ n = 0 ∧ c = 0) ∨ ∃ ad, a = some ad) (hS : Strs w a n S) (hA2 : (a2 = none ∧ n2 = 0 ∧ c2 = 0) ∨ ∃ ad, a2 = some ad) (hS2 : Strs w a2 n2 S2) :
    Calls Yba.prog 3 #[.string name, .slice a n c, .slice a2 n2 c2] w fun e w' => e = .returned (.bool true) ∧ Below w.heap.size w w' := by
  have HS := hid hS
  have HA := hid hA
  have HS2 := hid hS2
  have HA2 := hid hA2
  have HSz := hid hsz
  clear hS hA hS2 hA2 hsz
  refine (callsIn_wide (n := 3)).1 ?_
  refine callsIn_of_wp_marks Yba.func3 rfl trivial ?_ rfl
  refine wpIn_wide.2 (wp_ok ?_)
  simp only [Yba.ntmps3, List.size_toArray, List.length_cons, List.length_nil, Nat.reduceAdd, Nat.reduceSub, Array.replicate_succ, Array.replicate_zero, List.push_toArray, List.append_toArray, List.nil_append, List.cons_append]
  refine (show Code.wp Yba.prog (sndN 0 (Yba.f3.body.getD .skip)) (okPost <| bodyPostM Fence.wide 3 Yba.prog Yba.f3 fun e w' => e = .returned (.bool true) ∧ Below w.heap.size w w') _ _ from ?_)
  refine wp_seq_k (x := fstN 0 (Yba.f3.body.getD .skip)) (y := sndN 1 (Yba.f3.body.getD .skip)) (fun K0 hK0 => ?_)
  simp only [Yba.f3, Option.getD_some, fstN]
  go_wp2
  refine wp_seq_k (x := fstN 1 (Yba.f3.body.getD .skip)) (y := sndN 2 (Yba.f3.body.getD .skip)) (fun K1 hK1 => ?_)
  simp only [Yba.f3, Option.getD_some, fstN]
  go_wp2
  refine wp_seq_k (x := fstN 2 (Yba.f3.body.getD .skip)) (y := sndN 3 (Yba.f3.body.getD .skip)) (fun K2 hK2 => ?_)
  simp only [Yba.f3, Option.getD_some, fstN]
  go_wp2_with (go_at_call 5; refine (copy_el a n c S _ hn HA.out HS.out).mono ?_; rintro e w1 ⟨ga, gc, d, rfl, hE, hb1, hrows⟩)
  exact all_four S S2 ga gc d w1 w hn hn2 HSz.out hb1 HS.out HA2.out HS2.out hE (fun i hi => by
    obtain ⟨g, e, _, hc⟩ := hrows i hi
    exact ⟨g, e, hc⟩)

end Go.Proofs.Ybulkbyps
