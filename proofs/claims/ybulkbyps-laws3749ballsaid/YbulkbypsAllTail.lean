/-
  For LawS3749BAll: the law's text behind the range.
-/
import Derived.Test.YbulkbypsAllParts
import Derived.Test.YbulkbypsStopTail
namespace Go.Proofs.Ybulkbyps
open Go.RowKit Go.Maps Go.Shelf

/-- The post of a text that does not panic. -/
def okPost (Q : Exit → Act → World → Prop) : Exit → Act → World → Prop
  | .normal, a, w => Q .normal a w
  | .ret, a, w => Q .ret a w
  | _, _, _ => False
theorem wp_ok {c : Code} {Q : Exit → Act → World → Prop} {a : Act} {w : World} (h : c.wp Yba.prog (okPost Q) a w) : c.wp Yba.prog Q a w :=
  wp_mono h fun e a w hq => by
    cases e with
    | normal => exact hq
    | ret => exact hq
    | _ => exact hq.elim

set_option maxRecDepth 20000 in
set_option maxHeartbeats 1000000 in
theorem all_end {u2 u3 u4 u5 u6 u7 u9 u10 u11 u12 u13 u14 u15 u16 u17 u18 u19 u20 u21 u22 u23 u24 u25 u26 u27 u28 u29 u30 u31 u32 u33 u34 u35 u36 u37 u38 u39 u40 u41 u42 u43 u44 u45 u46 u47 u48 u49 u50 u51 u52 u53 u54 u55 u56 u57 u58 u59 : Value} {a : Option Addr} {n c P E : Nat} {name : ByteArray} (S : Nat → ByteArray) (mb kk : Nat) (ga : Option Addr) (gc : Nat) (D d : DataW Unit) (W w : World) (hn : n ≤ 1024) (hsz : name.size ≤ maxLen)
    (hb : Below w.heap.size w W) (hS : Strs w a n S) (cm : W.cell? ⟨P, 11, none⟩ = some (.map (some mb))) (hown : W.ownsMap Yba.prog 9 slElem mb kk D) (hE : slElem (.slice ga n gc) = some (d, [])) (hat : ∀ z, D.atKey (.string name.data.toList) z = d)
    (rows : Strs W ga n S) (hE1 : w.heap.size ≤ E) (hE2 : W.heap[E]? = some (.deferred (some []))) :
    Code.wp Yba.prog (sndN 9 (Yba.f3.body.getD .skip)) (okPost <| bodyPostM Fence.wide 3 Yba.prog Yba.f3 fun e w' => e = .returned (.bool true) ∧ Below w.heap.size w w') { tmps := ((Value.string name) :: (Value.slice a n c) :: u2 :: u3 :: u4 :: u5 :: u6 :: u7 :: (Value.pointer (some ⟨P, 0, none⟩)) :: u9 :: u10 :: u11 :: u12 :: u13 :: u14 :: u15 :: u16 :: u17 :: u18 :: u19 :: u20 :: u21 :: u22 :: u23 :: u24 :: u25 :: u26 :: u27 :: u28 :: u29 :: u30 :: u31 :: u32 :: u33 :: u34 :: u35 :: u36 :: u37 :: u38 :: u39 :: u40 :: u41 :: u42 :: u43 :: u44 :: u45 :: u46 :: u47 :: u48 :: u49 :: u50 :: u51 :: u52 :: u53 :: u54 :: u55 :: u56 :: u57 :: u58 :: u59 :: ([] : List Value)).toArray, defers := [{ target := .collected E, args := #[] }] } W := by
  have hlk : (Instr.lookup 25 (.map (some mb)) (.string name) false).run Yba.prog W = .ok (.slice ga n gc) W := look_name hown hsz hE hat 0
  have HB := hid hb
  have HS := hid hS
  have HR := hid rows
  have HE2 := hid hE2
  clear hown hE hat hS rows hb hE2
  simp only [Yba.f3, Option.getD_some, sndN]
  go_wp2_with (go_at_call 7; refine (equal_true _ _ n _ _ S S _ (by omega) HR.out (by exact HS.out.below HB.out) (fun _ _ => rfl)).mono ?_; rintro e w8 ⟨rfl, m8, rfl⟩)
  refine ⟨by simp, .inl ⟨_, _, rfl, run_takeDeferred HE2.out, ?_⟩⟩
  exact ⟨_, results_tmp rfl _ _ _, rfl, (below_drewN HB.out m8).trans (belowK_b (w := w) (Nat.le_refl _) _ E _ _ hE1 HE2.out rfl rfl)⟩

set_option maxRecDepth 20000 in
set_option maxHeartbeats 1000000 in
theorem all_tail {u2 u3 u4 u5 u6 u7 u10 u11 u12 u13 u14 u15 u16 u17 u18 u19 u20 u21 u22 u23 u24 u25 u26 u27 u28 u29 u30 u31 u32 u33 u34 u35 u36 u37 u38 u39 u40 u41 u42 u43 u44 u45 u46 u47 u48 u49 u50 u51 u52 u53 u54 u55 u56 u57 u58 u59 : Value} {a : Option Addr} {n c P E gb : Nat} {name : ByteArray} (S : Nat → ByteArray) (mb kk : Nat) (ga : Option Addr) (gc : Nat) (D d : DataW Unit) (W w : World) (v : Value) (base : Nat) (hn : n ≤ 1024) (hsz : name.size ≤ maxLen)
    (hb : Below w.heap.size w W) (hS : Strs w a n S) (cm : W.cell? ⟨P, 11, none⟩ = some (.map (some mb))) (hown : W.ownsMap Yba.prog 9 slElem mb kk D) (hE : slElem (.slice ga n gc) = some (d, [])) (hat : ∀ z, D.atKey (.string name.data.toList) z = d)
    (rows : Strs W ga n S) (hE1 : w.heap.size ≤ E) (hE2 : W.heap[E]? = some (.deferred (some []))) (cg : W.cell? ⟨gb, 0, none⟩ = some v) (hvo : W.ownsRow base 9 1 v (name :: kept S name n).length ((name :: kept S name n).map Value.string)) :
    Code.wp Yba.prog (sndN 8 (Yba.f3.body.getD .skip)) (okPost <| bodyPostM Fence.wide 3 Yba.prog Yba.f3 fun e w' => e = .returned (.bool true) ∧ Below w.heap.size w w') { tmps := ((Value.string name) :: (Value.slice a n c) :: u2 :: u3 :: u4 :: u5 :: u6 :: u7 :: (Value.pointer (some ⟨P, 0, none⟩)) :: (Value.pointer (some ⟨gb, 0, none⟩)) :: u10 :: u11 :: u12 :: u13 :: u14 :: u15 :: u16 :: u17 :: u18 :: u19 :: u20 :: u21 :: u22 :: u23 :: u24 :: u25 :: u26 :: u27 :: u28 :: u29 :: u30 :: u31 :: u32 :: u33 :: u34 :: u35 :: u36 :: u37 :: u38 :: u39 :: u40 :: u41 :: u42 :: u43 :: u44 :: u45 :: u46 :: u47 :: u48 :: u49 :: u50 :: u51 :: u52 :: u53 :: u54 :: u55 :: u56 :: u57 :: u58 :: u59 :: ([] : List Value)).toArray, defers := [{ target := .collected E, args := #[] }] } W := by
  have hkl := kept_le S name n
  obtain ⟨M, hM⟩ : ∃ M, M = name :: kept S name n := ⟨_, rfl⟩
  have hMl : M.length ≤ 1025 := by rw [hM]; simp; omega
  have hM1 : 1 ≤ M.length := by rw [hM]; simp
  have HMM := hid hM
  rw [← hM] at hvo
  clear hkl hM
  obtain ⟨g2, cap2, rfl⟩ := owned_slice hvo hM1
  have HVO := hid hvo
  have HB := hid hb
  have HSd : Hid (Strs W.drew a n S) := hid (hS.below hb.drew)
  have cgd : W.drew.cell? ⟨gb, 0, none⟩ = some (.slice (some ⟨g2, 0, none⟩) M.length cap2) := cg
  have HAll := hid (And.intro hS (And.intro cm (And.intro hown (And.intro hE (And.intro hat (And.intro rows (And.intro hE2 cg)))))))
  clear hvo hb hS cm hown hE hat rows hE2 cg
  refine wp_seq_k (x := fstN 8 (Yba.f3.body.getD .skip)) (y := sndN 9 (Yba.f3.body.getD .skip)) (fun K8 hK8 => ?_)
  simp only [Yba.f3, Option.getD_some, fstN]
  go_wp2
  go_region_with (first
      | (go_at_call 8; refine (model_any name a n c S _ hn HSd.out).mono ?_; rw [← HMM.out]; rintro e w7 ⟨g, cap, rfl, hg, hcap, ho, hb7⟩; have cg7 := (hb7.cell (World.block_lt_of_cell? _ _ cgd)).trans cgd; have HS1 := hid (owned_strs (ownsRow_later (w := W.drew) HVO.out hb7) M List.prefix_rfl); have HS2 := hid (owned_strs ho M List.prefix_rfl); have HB7 := hid hb7; clear ho hb7)
      | (go_at_call 7; refine (equal_true _ _ M.length _ _ (fun i => M.getD i ByteArray.empty) (fun i => M.getD i ByteArray.empty) _ (by omega) HS1.out HS2.out (fun _ _ => rfl)).mono ?_; rintro e w8 ⟨rfl, m8, rfl⟩))
  all_goals go_wp2
  all_goals
    obtain ⟨hS, cm, hown, hE, hat, rows, hE2, cg⟩ := HAll.out
    have hb7 : Below W.heap.size W w7 := (Below.refl _ W).drew.trans HB7.out
    have hb8 : Below W.heap.size W (w7.drewN m8) := below_drewN hb7 m8
    have hlt : E < W.heap.size := (Array.getElem?_eq_some_iff.1 hE2).1
    exact all_end S mb kk ga gc D d (w7.drewN m8) w hn hsz (HB.out.trans (hb8.mono HB.out.size)) hS ((hb8.cell (World.block_lt_of_cell? _ _ cm)).trans cm) (ownsMap_later hown hb8) hE hat (rows.below hb8) hE1 ((hb8.block E hlt).trans hE2)

end Go.Proofs.Ybulkbyps
