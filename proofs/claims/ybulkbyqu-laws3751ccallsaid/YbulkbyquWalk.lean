/-
  The walk of LawS3751CCall (function 3).
-/
import Derived.Test.YbulkbyquTail
namespace Go.Proofs.Ybulkbyqu
open Go.RowKit

section
variable (w : World) (x y z : Value) (s t u : TypeId)
theorem three : Below w.heap.size w (((w.alloc (.cells #[x] s)).alloc (.cells #[y] t)).alloc (.cells #[z] u)) := (((Below.refl _ w).alloc (Nat.le_refl _) _).alloc (by simp) _).alloc (by simp; omega) _
theorem three_a : (((w.alloc (.cells #[x] s)).alloc (.cells #[y] t)).alloc (.cells #[z] u)).cell? ⟨w.heap.size, 0, none⟩ = some x := by
  rw [World.cell?_alloc_past _ _ _ (by simp; omega), World.cell?_alloc_past _ _ _ (by simp), World.cell?_alloc_at _ _ _ _ rfl]; rfl
theorem three_b : (((w.alloc (.cells #[x] s)).alloc (.cells #[y] t)).alloc (.cells #[z] u)).cell? ⟨w.heap.size + 1, 0, none⟩ = some y := by
  rw [World.cell?_alloc_past _ _ _ (by simp), World.cell?_alloc_at _ _ _ _ (by simp)]; rfl
theorem three_c : (((w.alloc (.cells #[x] s)).alloc (.cells #[y] t)).alloc (.cells #[z] u)).cell? ⟨w.heap.size + 1 + 1, 0, none⟩ = some z := by
  rw [World.cell?_alloc_at _ _ _ _ (by simp)]; rfl
end

theorem var_at (w : World) (b : Nat) (v : Value) (t : TypeId) (e : b = w.heap.size) : Var (w.alloc (.cells #[v] t)) b v := ⟨by rw [World.cell?_alloc_at _ _ _ _ e]; rfl, by rw [World.frozen?_alloc_at _ _ _ _ e]⟩
theorem var_new (w : World) (v : Value) (t : TypeId) : Var (w.alloc (.cells #[v] t)) w.heap.size v := var_at w _ v t rfl
theorem var_old {w : World} {b : Nat} {v : Value} (h : Var w b v) (o : Obj) : Var (w.alloc o) b v := h.keep (Below.heap_alloc _ _ _ (World.block_lt_of_cell? _ _ h.c))

set_option maxRecDepth 20000 in
set_option maxHeartbeats 1000000 in
theorem law_call {u0 u1 u2 u3 u4 u6 u8 u9 u18 u19 u20 u21 u22 u23 u24 u25 u26 u27 u28 u29 u30 u31 u32 u33 u34 u35 u36 u37 u38 u39 u40 u41 u42 u43 u44 u45 u46 u47 u48 u49 u50 u51 u52 u53 u54 u55 u56 u57 u58 u59 u60 u61 u62 u63 u64 u65 u66 u67 u68 u69 : Value} {db vb sb H : Nat} (stop : Nat) (dp : Bool) (val : Int) (W w : World) (hst : stop ≤ 1024) (hbw : Below w.heap.size w W) (hH : W.heap.size = H + 6) (hw : w.heap.size ≤ H) (o1 : db < H) (o2 : vb < H) (o3 : sb < H)
    (c3 : W.cell? ⟨sb, 0, none⟩ = some (.int .i64 stop)) (c4 : W.cell? ⟨db, 0, none⟩ = some (.bool dp)) (c8 : W.cell? ⟨vb, 0, none⟩ = some (.int .i64 val))
    (v0 : Var W H (.slice none 0 0)) (v1 : Var W (H + 1) (.int .i64 0)) (v2 : Var W (H + 1 + 1) (.int .i64 0)) (v3 : Var W (H + 1 + 1 + 1) (.int .i64 0)) (v4 : Var W (H + 1 + 1 + 1 + 1) (.bool false))
    (cf : W.cell? ⟨H + 1 + 1 + 1 + 1 + 1, 1, none⟩ = some (.func (.func 4) #[] #[.pointer (some ⟨H + 1 + 1, 0, none⟩), .pointer (some ⟨H + 1 + 1 + 1, 0, none⟩), .pointer (some ⟨H + 1 + 1 + 1 + 1, 0, none⟩)])) :
    Code.wp Yba.prog (sndN 12 (Yba.f3.body.getD .skip)) (bodyPost Yba.prog Yba.f3 fun e w' => e = .returned (.bool true) ∧ Below w.heap.size w w') { tmps := (u0 :: u1 :: u2 :: u3 :: u4 :: (Value.pointer (some ⟨db, 0, none⟩)) :: u6 :: (Value.pointer (some ⟨vb, 0, none⟩)) :: u8 :: u9 :: (Value.pointer (some ⟨sb, 0, none⟩)) :: (Value.pointer (some ⟨H, 0, none⟩)) :: (Value.pointer (some ⟨H + 1, 0, none⟩)) :: (Value.pointer (some ⟨H + 1 + 1, 0, none⟩)) :: (Value.pointer (some ⟨H + 1 + 1 + 1, 0, none⟩)) :: (Value.pointer (some ⟨H + 1 + 1 + 1 + 1, 0, none⟩)) :: (Value.pointer (some ⟨H + 1 + 1 + 1 + 1 + 1, 0, none⟩)) :: (Value.func (.func 5) #[] #[.pointer (some ⟨H + 1, 0, none⟩), .pointer (some ⟨sb, 0, none⟩), .pointer (some ⟨H, 0, none⟩), .pointer (some ⟨db, 0, none⟩), .pointer (some ⟨vb, 0, none⟩)]) :: u18 :: u19 :: u20 :: u21 :: u22 :: u23 :: u24 :: u25 :: u26 :: u27 :: u28 :: u29 :: u30 :: u31 :: u32 :: u33 :: u34 :: u35 :: u36 :: u37 :: u38 :: u39 :: u40 :: u41 :: u42 :: u43 :: u44 :: u45 :: u46 :: u47 :: u48 :: u49 :: u50 :: u51 :: u52 :: u53 :: u54 :: u55 :: u56 :: u57 :: u58 :: u59 :: u60 :: u61 :: u62 :: u63 :: u64 :: u65 :: u66 :: u67 :: u68 :: u69 :: ([] : List Value)).toArray, defers := [] } W := by
  have hB : w.heap.size ≤ H := hw
  have keep : ∀ w1, Tk (H + 6 + 1) (H + 1) H stop (W.alloc (.cells #[.pointer (some ⟨H + 1 + 1 + 1 + 1 + 1, 0, none⟩)] 24)) w1 → ∀ b, b < H → w1.heap[b]? = W.heap[b]? := fun w1 hT b hb =>
    (hT.same b (by omega) (by omega) (by omega)).trans (Below.heap_alloc _ _ _ (by omega))
  cases dp
  · have HC := hid (call_plain w.heap.size (H + 6) (H + 1) sb H db vb (H + 1 + 1 + 1 + 1 + 1) (H + 1 + 1) (H + 1 + 1 + 1) (H + 1 + 1 + 1 + 1) stop val W hst hH.symm (by omega) (by omega) (by omega) (by omega) (by omega) (by omega) (by omega) (by omega) (by omega) (by omega) (by omega) (by omega) (by omega) (by omega) (by omega) (by omega) (by omega) ⟨by omega, by omega⟩ ⟨by omega, by omega⟩ ⟨by omega, by omega⟩ v1 c3 v0 c4 c8 v2 v3 v4)
    have HK := hid keep
    have HAll := hid (And.intro c3 (And.intro c4 (And.intro c8 hbw)))
    clear v0 v1 v2 v3 v4 cf c3 c4 c8 hbw keep
    unfold task at HC
    refine wp_seq_k (x := fstN 12 (Yba.f3.body.getD .skip)) (y := sndN 13 (Yba.f3.body.getD .skip)) (fun K12 hK12 => ?_)
    simp only [Yba.f3, Option.getD_some, fstN]
    go_wp2_with (go_at_call 6; refine HC.out.mono ?_; rintro e w1 ⟨rfl, hT, hb1, g1, g2, g3⟩)
    obtain ⟨c3, c4, c8, hbw⟩ := HAll.out
    obtain ⟨v, hv, hown⟩ := hT.l
    obtain ⟨ga, cap, rfl, rows⟩ := own_ints hown
    exact law_end stop cap ga false false val 0 0 w1 w hst (hbw.trans hb1) hT.c.c hv.c rows (cell_block c3 (HK.out w1 hT sb o3)) (cell_block c4 (HK.out w1 hT db o1)) g1.c g2.c g3.c (cell_block c8 (HK.out w1 hT vb o2)) rfl
  · have HC := hid (call_panics w.heap.size (H + 6) (H + 1) sb H db vb (H + 1 + 1 + 1 + 1 + 1) (H + 1 + 1) (H + 1 + 1 + 1) (H + 1 + 1 + 1 + 1) stop val W hst hH.symm (by omega) (by omega) (by omega) (by omega) (by omega) (by omega) (by omega) (by omega) (by omega) (by omega) (by omega) (by omega) (by omega) (by omega) (by omega) (by omega) (by omega) (by omega) ⟨by omega, by omega⟩ ⟨by omega, by omega⟩ ⟨by omega, by omega⟩ ⟨by omega, by omega⟩ (by omega) (by omega) (by omega) v1 c3 v0 c4 c8 cf v2 v3 v4)
    have HK := hid keep
    have HAll := hid (And.intro c3 (And.intro c4 (And.intro c8 hbw)))
    clear v0 v1 v2 v3 v4 cf c3 c4 c8 hbw keep
    unfold task at HC
    refine wp_seq_k (x := fstN 12 (Yba.f3.body.getD .skip)) (y := sndN 13 (Yba.f3.body.getD .skip)) (fun K12 hK12 => ?_)
    simp only [Yba.f3, Option.getD_some, fstN]
    go_wp2_with (go_at_call 6; refine HC.out.mono ?_; rintro e w2 ⟨rfl, w1, hT, hb1, g1, g2, g3, rfl⟩)
    obtain ⟨c3, c4, c8, hbw⟩ := HAll.out
    obtain ⟨v, hv, hown⟩ := hT.l
    have hown' := ownsRow_setCell_below (ownsRow_setCell_below (ownsRow_setCell_below hown (a := ⟨H + 1 + 1, 0, none⟩) (by simp only; omega) (.int .i64 1)) (a := ⟨H + 1 + 1 + 1, 0, none⟩) (by simp only; omega) (.int .i64 val)) (a := ⟨H + 1 + 1 + 1 + 1, 0, none⟩) (by simp only; omega) (.bool true)
    obtain ⟨ga, cap, rfl, rows⟩ := own_ints hown'
    have old : ∀ b, b < H + 1 + 1 → (((w1.setCell ⟨H + 1 + 1, 0, none⟩ (.int .i64 1)).setCell ⟨H + 1 + 1 + 1, 0, none⟩ (.int .i64 val)).setCell ⟨H + 1 + 1 + 1 + 1, 0, none⟩ (.bool true)).heap[b]? = w1.heap[b]? := fun b hb => by
      rw [Below.heap_setCell _ _ _ _ (by simp; try omega), Below.heap_setCell _ _ _ _ (by simp; try omega), Below.heap_setCell _ _ _ _ (by simp; try omega)]
    have hbb : Below w.heap.size w (((w1.setCell ⟨H + 1 + 1, 0, none⟩ (.int .i64 1)).setCell ⟨H + 1 + 1 + 1, 0, none⟩ (.int .i64 val)).setCell ⟨H + 1 + 1 + 1 + 1, 0, none⟩ (.bool true)) :=
      (((hbw.trans hb1).setCell (p := ⟨H + 1 + 1, 0, none⟩) (by simp; omega) _).setCell (p := ⟨H + 1 + 1 + 1, 0, none⟩) (by simp; omega) _).setCell (p := ⟨H + 1 + 1 + 1 + 1, 0, none⟩) (by simp; omega) _
    exact law_end stop cap ga true true val 1 val _ w hst hbb (cell_block hT.c.c (old _ (by omega))) (cell_block hv.c (old _ (by omega))) rows
      (cell_block (cell_block c3 (HK.out w1 hT sb o3)) (old _ (by omega))) (cell_block (cell_block c4 (HK.out w1 hT db o1)) (old _ (by omega)))
      (((g1.set _).other (by omega)).other (by omega)).c (((g2.other (by omega)).set _).other (by omega)).c (((g3.other (by omega)).other (by omega)).set _).c (cell_block (cell_block c8 (HK.out w1 hT vb o2)) (old _ (by omega))) ⟨rfl, rfl, rfl⟩

set_option maxRecDepth 20000 in
set_option maxHeartbeats 1000000 in
theorem law_mid {u0 u1 u2 u3 u4 u6 u8 u9 u11 u12 u13 u14 u15 u16 u17 u18 u19 u20 u21 u22 u23 u24 u25 u26 u27 u28 u29 u30 u31 u32 u33 u34 u35 u36 u37 u38 u39 u40 u41 u42 u43 u44 u45 u46 u47 u48 u49 u50 u51 u52 u53 u54 u55 u56 u57 u58 u59 u60 u61 u62 u63 u64 u65 u66 u67 u68 u69 : Value} {db vb sb : Nat} (stop : Nat) (dp : Bool) (val : Int) (W w : World) (hst : stop ≤ 1024) (hbw : Below w.heap.size w W)
    (c3 : W.cell? ⟨sb, 0, none⟩ = some (.int .i64 stop)) (c4 : W.cell? ⟨db, 0, none⟩ = some (.bool dp)) (c8 : W.cell? ⟨vb, 0, none⟩ = some (.int .i64 val)) :
    Code.wp Yba.prog (sndN 5 (Yba.f3.body.getD .skip)) (bodyPost Yba.prog Yba.f3 fun e w' => e = .returned (.bool true) ∧ Below w.heap.size w w') { tmps := (u0 :: u1 :: u2 :: u3 :: u4 :: (Value.pointer (some ⟨db, 0, none⟩)) :: u6 :: (Value.pointer (some ⟨vb, 0, none⟩)) :: u8 :: u9 :: (Value.pointer (some ⟨sb, 0, none⟩)) :: u11 :: u12 :: u13 :: u14 :: u15 :: u16 :: u17 :: u18 :: u19 :: u20 :: u21 :: u22 :: u23 :: u24 :: u25 :: u26 :: u27 :: u28 :: u29 :: u30 :: u31 :: u32 :: u33 :: u34 :: u35 :: u36 :: u37 :: u38 :: u39 :: u40 :: u41 :: u42 :: u43 :: u44 :: u45 :: u46 :: u47 :: u48 :: u49 :: u50 :: u51 :: u52 :: u53 :: u54 :: u55 :: u56 :: u57 :: u58 :: u59 :: u60 :: u61 :: u62 :: u63 :: u64 :: u65 :: u66 :: u67 :: u68 :: u69 :: ([] : List Value)).toArray, defers := [] } W := by
  have hmf := hmf
  refine wp_seq_k (x := fstN 5 (Yba.f3.body.getD .skip)) (y := sndN 6 (Yba.f3.body.getD .skip)) (fun K5 hK5 => ?_)
  simp only [Yba.f3, Option.getD_some, fstN]
  go_wp2
  refine wp_seq_k (x := fstN 6 (Yba.f3.body.getD .skip)) (y := sndN 7 (Yba.f3.body.getD .skip)) (fun K6 hK6 => ?_)
  simp only [Yba.f3, Option.getD_some, fstN]
  go_wp2
  refine wp_seq_k (x := fstN 7 (Yba.f3.body.getD .skip)) (y := sndN 8 (Yba.f3.body.getD .skip)) (fun K7 hK7 => ?_)
  simp only [Yba.f3, Option.getD_some, fstN]
  go_wp2
  refine wp_seq_k (x := fstN 8 (Yba.f3.body.getD .skip)) (y := sndN 9 (Yba.f3.body.getD .skip)) (fun K8 hK8 => ?_)
  simp only [Yba.f3, Option.getD_some, fstN]
  go_wp2
  refine wp_seq_k (x := fstN 9 (Yba.f3.body.getD .skip)) (y := sndN 10 (Yba.f3.body.getD .skip)) (fun K9 hK9 => ?_)
  simp only [Yba.f3, Option.getD_some, fstN]
  go_wp2
  refine wp_seq_k (x := fstN 10 (Yba.f3.body.getD .skip)) (y := sndN 11 (Yba.f3.body.getD .skip)) (fun K10 hK10 => ?_)
  simp only [Yba.f3, Option.getD_some, fstN]
  go_wp2
  refine wp_seq_k (x := fstN 11 (Yba.f3.body.getD .skip)) (y := sndN 12 (Yba.f3.body.getD .skip)) (fun K11 hK11 => ?_)
  simp only [Yba.f3, Option.getD_some, fstN]
  go_wp2
  refine gen_world ?_
  intro W1 hW1
  have l3 := World.block_lt_of_cell? _ _ c3
  have l4 := World.block_lt_of_cell? _ _ c4
  have l8 := World.block_lt_of_cell? _ _ c8
  simp only at l3 l4 l8
  have hge := hbw.size
  have hb1 : Below W.heap.size W W1 := by
    rw [hW1]; exact ((((((Below.refl _ W).alloc (Nat.le_refl _) _).alloc (by simp) _).alloc (by simp; omega) _).alloc (by simp; omega) _).alloc (by simp; omega) _).alloc (by simp; omega) _
  exact law_call (H := W.heap.size) stop dp val W1 w hst (hbw.trans (hb1.mono hge)) (by rw [hW1]; simp) hge l4 l8 l3 ((hb1.cell l3).trans c3) ((hb1.cell l4).trans c4) ((hb1.cell l8).trans c8)
    (by rw [hW1]; exact var_old (var_old (var_old (var_old (var_old (var_new _ _ _) _) _) _) _) _)
    (by rw [hW1]; exact var_old (var_old (var_old (var_old (var_at _ _ _ _ (by simp)) _) _) _) _)
    (by rw [hW1]; exact var_old (var_old (var_old (var_at _ _ _ _ (by simp)) _) _) _)
    (by rw [hW1]; exact var_old (var_old (var_at _ _ _ _ (by simp)) _) _)
    (by rw [hW1]; exact var_old (var_at _ _ _ _ (by simp)) _)
    (by rw [hW1, World.cell?_alloc_at _ _ _ _ (by simp)]; rfl)

set_option maxRecDepth 20000 in
set_option maxHeartbeats 1000000 in
theorem law_long (a0 a2 a3 : Int) (a1 : Bool) (w : World) (h : 1024 < a0) (_h9 : a0 ≤ 65535) :
    Calls Yba.prog 3 #[.int .u16 a0, .bool a1, .int .u16 a2, .int .i64 a3] w fun e w' => e = .returned (.bool true) ∧ Below w.heap.size w w' := by
  go_enter Yba.func3, Yba.ntmps3
  refine (show Code.wp Yba.prog (sndN 0 (Yba.f3.body.getD .skip)) (bodyPost Yba.prog Yba.f3 fun e w' => e = .returned (.bool true) ∧ Below w.heap.size w w') _ _ from ?_)
  refine wp_seq_k (x := fstN 0 (Yba.f3.body.getD .skip)) (y := sndN 1 (Yba.f3.body.getD .skip)) (fun K0 hK0 => ?_)
  simp only [Yba.f3, Option.getD_some, fstN]
  go_wp2
  refine wp_seq_k (x := fstN 1 (Yba.f3.body.getD .skip)) (y := sndN 2 (Yba.f3.body.getD .skip)) (fun K1 hK1 => ?_)
  simp only [Yba.f3, Option.getD_some, fstN]
  go_wp2
  go_ret
  exact ⟨rfl, ((Below.refl _ w).alloc (Nat.le_refl _) _).alloc (by simp) _⟩

set_option maxRecDepth 20000 in
set_option maxHeartbeats 1000000 in
theorem law_short (n a2 : Nat) (a3 : Int) (a1 : Bool) (w : World) (h1 : n ≤ 1024) (h3 : a2 ≤ 65535) :
    Calls Yba.prog 3 #[.int .u16 (n : Int), .bool a1, .int .u16 (a2 : Int), .int .i64 a3] w fun e w' => e = .returned (.bool true) ∧ Below w.heap.size w w' := by
  go_enter Yba.func3, Yba.ntmps3
  refine (show Code.wp Yba.prog (sndN 0 (Yba.f3.body.getD .skip)) (bodyPost Yba.prog Yba.f3 fun e w' => e = .returned (.bool true) ∧ Below w.heap.size w w') _ _ from ?_)
  refine wp_seq_k (x := fstN 0 (Yba.f3.body.getD .skip)) (y := sndN 1 (Yba.f3.body.getD .skip)) (fun K0 hK0 => ?_)
  simp only [Yba.f3, Option.getD_some, fstN]
  go_wp2
  refine wp_seq_k (x := fstN 1 (Yba.f3.body.getD .skip)) (y := sndN 2 (Yba.f3.body.getD .skip)) (fun K1 hK1 => ?_)
  simp only [Yba.f3, Option.getD_some, fstN]
  go_wp2
  refine wp_seq_k (x := fstN 2 (Yba.f3.body.getD .skip)) (y := sndN 3 (Yba.f3.body.getD .skip)) (fun K2 hK2 => ?_)
  simp only [Yba.f3, Option.getD_some, fstN]
  go_wp2
  refine wp_seq_k (x := fstN 3 (Yba.f3.body.getD .skip)) (y := sndN 4 (Yba.f3.body.getD .skip)) (fun K3 hK3 => ?_)
  simp only [Yba.f3, Option.getD_some, fstN]
  go_wp2
  cases a1
  · skip
    refine wp_seq_k (x := fstN 4 (Yba.f3.body.getD .skip)) (y := sndN 5 (Yba.f3.body.getD .skip)) (fun K4 hK4 => ?_)
    simp only [Yba.f3, Option.getD_some, fstN]
    go_wp2
    exact law_mid n false a3 _ w h1 (three w _ _ _ _ _ _) (three_c w _ _ _ _ _ _) (three_a w _ _ _ _ _ _) (three_b w _ _ _ _ _ _)
  · skip
    refine wp_seq_k (x := fstN 4 (Yba.f3.body.getD .skip)) (y := sndN 5 (Yba.f3.body.getD .skip)) (fun K4 hK4 => ?_)
    simp only [Yba.f3, Option.getD_some, fstN]
    go_wp2
    have e : ((a2 : Int) % ((n : Int) + 1)) = ((a2 % (n + 1) : Nat) : Int) := by push_cast; rfl
    rw [e]
    exact law_mid (a2 % (n + 1)) true a3 _ w (by have := Nat.mod_lt a2 (show 0 < n + 1 by omega); omega) (three w _ _ _ _ _ _) (three_c w _ _ _ _ _ _) (three_a w _ _ _ _ _ _) (three_b w _ _ _ _ _ _)

end Go.Proofs.Ybulkbyqu
