/-
  The walk of portunus.LawS3748BFinds (function 3): the jobs are counted, the journal's state is filled; the rest by its own declarations.
-/
import Derived.Test.YbulkbypeFmtFindsPick
namespace Go.Proofs.YbulkbypeFmt
open Go.RowKit Go.Extern.Stop Go.Stop Go.Extern Go.Maps

set_option maxRecDepth 20000 in
set_option maxHeartbeats 1000000 in
theorem walk_short (F : Interp) (a0 : Option Addr) (len cap : Nat) (ID : Nat → Int) (ta : Nat → Option Addr) (tl tc : Nat → Nat) (S : Nat → Nat → ByteArray) (jm tm : Bool) (qj js ts : Int) (qt : ByteArray) (w : World) (hF : F.answers w.tape)
    (hlen : len ≤ 512) (hJ : Jobs w a0 len ID ta tl tc S) (hq : (Lit.int .u64 qj).wf = true) (hj0 : 0 ≤ js) (hj1 : js ≤ 255) (ht0 : 0 ≤ ts) (ht1 : ts ≤ 255) :
    Calls Ybaf.prog 3 #[.slice a0 len cap, .bool jm, .int .u64 qj, .int .u8 js, .bool tm, .string qt, .int .u8 ts] w fun e w' => e = .returned (.bool true) ∧ Below w.heap.size w w' := by
  have HJ := hid hJ
  clear hJ
  have hmm := @run_makeMap Ybaf.prog
  have hd0 : decide ((512 : Int) < (len : Int)) = false := by simp; omega
  go_enter Ybaf.func3, Ybaf.ntmps3
  refine (show Code.wp Ybaf.prog (sndN 0 (Ybaf.f3.body.getD .skip)) (bodyPost Ybaf.prog Ybaf.f3 fun e w' => e = .returned (.bool true) ∧ Below w.heap.size w w') _ _ from ?_)
  refine wp_seq_k (x := fstN 0 (Ybaf.f3.body.getD .skip)) (y := sndN 1 (Ybaf.f3.body.getD .skip)) (fun K0 hK0 => ?_)
  simp only [Ybaf.f3, Option.getD_some, fstN]
  go_wp2
  refine wp_seq_k (x := fstN 1 (Ybaf.f3.body.getD .skip)) (y := sndN 2 (Ybaf.f3.body.getD .skip)) (fun K1 hK1 => ?_)
  simp only [Ybaf.f3, Option.getD_some, fstN]
  go_wp2
  refine wp_seq_k (x := fstN 2 (Ybaf.f3.body.getD .skip)) (y := sndN 3 (Ybaf.f3.body.getD .skip)) (fun K2 hK2 => ?_)
  simp only [Ybaf.f3, Option.getD_some, fstN]
  go_wp2
  refine wp_seq_k (x := fstN 3 (Ybaf.f3.body.getD .skip)) (y := sndN 4 (Ybaf.f3.body.getD .skip)) (fun K3 hK3 => ?_)
  simp only [Ybaf.f3, Option.getD_some, fstN]
  go_wp2
  go_loopw [15, 42] (fun t i wr => ∃ k : Nat, k ≤ len ∧ i = .int .i64 k ∧ t = .int .i64 (sumN tl k) ∧ Below w.heap.size w wr) (fun _ i _ => len - (intOf i).toNat)
  case atStart => exact ⟨0, by omega, rfl, rfl, Below.refl _ _⟩
  case round =>
    obtain ⟨k, hk, rfl, rfl, hbel⟩ := hrel
    have hsum := sumN_bd tl _ HJ.out.tlb k
    by_cases hlt : k < len
    · obtain ⟨b, off, rfl, hb, c0, c1⟩ := HJ.out.row k hlt
      have g0 : wr.cell? ⟨b, off + k * 2, none⟩ = some (.int .u64 (ID k)) := (hbel.cell hb).trans c0
      have g1 : wr.cell? ⟨b, off + k * 2 + 1, none⟩ = some (.slice (ta k) (tl k) (tc k)) := (hbel.cell hb).trans c1
      have htl := HJ.out.tlb k
      have HB := hid hbel
      clear c0 c1 hbel
      go_wp2
      go_roundw
      case rel => exact ⟨k + 1, by omega, by go_num, by simp [sumN], HB.out.alloc HB.out.size _⟩
      case measure => simp [intOf]; omega
    · obtain rfl : k = len := by omega
      by_cases hbig : 8192 < sumN tl k
      · go_wp2
        refine wp_seq_k (x := fstN 4 (Ybaf.f3.body.getD .skip)) (y := sndN 5 (Ybaf.f3.body.getD .skip)) (fun K4 hK4 => ?_)
        simp only [Ybaf.f3, Option.getD_some, fstN]
        go_wp2
        go_ret
        exact ⟨rfl, hbel⟩
      · have htl : ∀ j, j < k → tl j ≤ 8192 := fun j hj => by have := le_sumN tl hj; omega
        have HT := hid htl
        have hmk := make34 k (by omega)
        have hd1 : decide ((8192 : Int) < (sumN tl k : Int)) = false := by simp; omega
        have HB := hid hbel
        have HS := hid (Build.start wr k ID tl S (v := .int .u64 0))
        clear htl hbel hsum
        go_wp2
        refine wp_seq_k (x := fstN 4 (Ybaf.f3.body.getD .skip)) (y := sndN 5 (Ybaf.f3.body.getD .skip)) (fun K4 hK4 => ?_)
        simp only [Ybaf.f3, Option.getD_some, fstN]
        go_wp2
        refine wp_seq_k (x := fstN 5 (Ybaf.f3.body.getD .skip)) (y := sndN 6 (Ybaf.f3.body.getD .skip)) (fun K5 hK5 => ?_)
        simp only [Ybaf.f3, Option.getD_some, fstN]
        go_wp2
        refine wp_seq_k (x := fstN 6 (Ybaf.f3.body.getD .skip)) (y := sndN 7 (Ybaf.f3.body.getD .skip)) (fun K6 hK6 => ?_)
        simp only [Ybaf.f3, Option.getD_some, fstN]
        go_wp2
        refine wp_seq_k (x := fstN 7 (Ybaf.f3.body.getD .skip)) (y := sndN 8 (Ybaf.f3.body.getD .skip)) (fun K7 hK7 => ?_)
        simp only [Ybaf.f3, Option.getD_some, fstN]
        go_wp2
        have HB0 := hid ((((((HB.out.alloc HB.out.size (.map #[] 0)).alloc (Nat.le_trans HB.out.size (by simp)) (.map #[] 0)).alloc (Nat.le_trans HB.out.size (by simp; omega)) (.map #[] 0)).alloc (Nat.le_trans HB.out.size (by simp; omega)) (.cells #[.int .u64 0, .map (some wr.heap.size), .map (some (wr.heap.size + 1)), .map (some (wr.heap.size + 1 + 1))] 33)).alloc (Nat.le_trans HB.out.size (by simp; omega)) (.cells (madeCells #[.pointer none] k) 39)))
        have hge := HB.out.size
        refine gen_world ?_
        intro W0 hW0
        rw [← hW0] at HS HB0
        obtain ⟨mb, hmb⟩ : ∃ mb, mb = wr.heap.size := ⟨_, rfl⟩
        rw [← hmb] at HS hge ⊢
        clear hW0 hmb HB hmm hmk
        go_loopw [64] (fun i ws => ∃ x : Nat, x ≤ k ∧ i = .int .i64 x ∧ ∃ Ef D, Build (mb + 1 + 1 + 1) mb (mb + 1 + 1 + 1 + 1) (mb + 5) k ID tl S x ws Ef D ∧ Below w.heap.size w ws) (fun i _ => k - (intOf i).toNat)
        case atStart => exact ⟨0, by omega, rfl, _, _, HS.out, HB0.out⟩
        case round =>
          clear HS HB0
          obtain ⟨x, hx, rfl, Ef, D, hBd, hbel⟩ := hrel
          by_cases hxk : x < k
          · obtain ⟨b, off, rfl, hb, c0, c1⟩ := HJ.out.row x hxk
            have g0 : wr.cell? ⟨b, off + x * 2, none⟩ = some (.int .u64 (ID x)) := (hbel.cell hb).trans c0
            have g1 : wr.cell? ⟨b, off + x * 2 + 1, none⟩ = some (.slice (ta x) (tl x) (tc x)) := (hbel.cell hb).trans c1
            have htl := HT.out x hxk
            have hmk := make36 (tl x) htl
            have HB := hid hbel
            have HBd := hid hBd
            have hT : (ta x = none ∧ tl x = 0 ∧ tc x = 0) ∨ ∃ ad, ta x = some ad ∧ ∀ i, i < tl x → (wr.alloc (.cells #[.int .u64 (ID x), .slice (ta x) (tl x) (tc x)] 26)).cell? (ad.add i) = some (.string (S x i)) := by
              rcases HJ.out.tgt x hxk with h | ⟨ad, e, h, _⟩
              · exact .inl h
              · refine .inr ⟨ad, e, fun i hi => ?_⟩
                have h1 := h i hi
                have h2 := (hbel.cell (World.block_lt_of_cell? _ _ h1)).trans h1
                rw [World.cell?_alloc_lt _ _ _ (World.block_lt_of_cell? _ _ h2)]
                exact h2
            have HTg := hid hT
            clear c0 c1 hbel hBd hT
            go_wp2_with (go_at_call 4; refine (clone_any (ta x) (tl x) (tc x) (S x) _ htl (by exact HTg.out)).mono ?_; rintro e w1 ⟨ga, gc, rfl, hbw, hcl⟩; have HBw := hid hbw; have HCl := hid hcl; clear hbw hcl)
            have hJ0 : w1.cell? ⟨wr.heap.size, 0, none⟩ = some (.int .u64 (ID x)) := by
              rw [HBw.out.cell (p := ⟨wr.heap.size, 0, none⟩) (by simp), World.cell?_alloc_at _ _ _ _ rfl]
              rfl
            have hJs : wr.heap.size + 1 ≤ w1.heap.size := by have := HBw.out.size; simpa using this
            have HF1 : Hid (∀ b, b < wr.heap.size → w1.heap[b]? = wr.heap[b]?) := fun b hb => by
              rw [HBw.out.block b (by simp; omega), Below.heap_alloc _ _ _ hb]
            have HB1 : Hid (Below w.heap.size w w1) := HB.out.trans (((Below.refl _ wr).alloc HB.out.size _).trans (HBw.out.mono (by simp; have := HB.out.size; omega)))
            have hbig := HBd.out.big
            have HCl2 : Hid (∀ i, i < tl x → ∃ cb, ga = some ⟨cb, 0, none⟩ ∧ mb + 5 ≤ cb ∧ w1.cell? ⟨cb, i, none⟩ = some (.string (S x i))) := fun i hi => by
              obtain ⟨cb, a1, a2, a3⟩ := HCl.out i hi
              exact ⟨cb, a1, by simp at a2; omega, a3⟩
            clear HCl
            obtain ⟨J, hJ⟩ : ∃ J, J = wr.heap.size := ⟨_, rfl⟩
            rw [← hJ] at hJ0 hJs HF1 ⊢
            have HJw := hid hJ
            clear hJ hmk g0 g1 HTg HBw
            go_loopw [77] (fun i ws => ∃ y : Nat, y ≤ tl x ∧ i = .int .i64 y ∧ TaskRow w1 ws w1.heap.size (tl x) y) (fun i _ => tl x - (intOf i).toNat)
            case atStart => exact ⟨0, by omega, rfl, TaskRow.start w1 (tl x)⟩
            case round =>
              obtain ⟨y, hy, rfl, hTR⟩ := hrel
              by_cases hyn : y < tl x
              · have t0 := hTR.todo y (Nat.le_refl _) hyn
                have tf := hTR.fz (y * 3)
                have HTR := hid hTR
                clear hTR
                go_wp2
                go_roundw
                case rel => exact ⟨y + 1, by omega, by go_num, HTR.out.step hyn⟩
                case measure => simp [intOf]; omega
              · obtain rfl : y = tl x := by omega
                have hf : ∀ b, b < J → wr.heap[b]? = _ := fun b hb => (hTR.frame b (by omega)).trans (HF1.out b hb)
                have cJ : wr.cell? ⟨J, 0, none⟩ = some (.int .u64 (ID x)) := (World.cell?_of_block (a := ⟨J, 0, none⟩) (hTR.frame J (by omega))).trans hJ0
                have hsz := hTR.size
                have hmid := HBd.out.mid (ws := wr) (by omega) (by omega) (by omega) hxk (fun b hb => hf b (by rw [HJw.out]; exact hb))
                obtain ⟨m1, ⟨v0, m2⟩, m3, m4⟩ := hmid
                have HM4 := hid m4
                have HTR := hid hTR
                have HFr := hid hf
                clear hTR hf m4 hJ0
                have hsz2 : wr.heap.size = w1.heap.size + 1 := hsz
                have HSZ := hid hsz2
                have hJl : J < wr.heap.size := by omega
                have hJbig : mb + 5 ≤ J := by rw [HJw.out]; exact hbig
                have hml : mb + 5 ≤ wr.heap.size := by rw [← HJw.out] at hbig; omega
                have q1 : mb + 1 + 1 + 1 + 1 < wr.heap.size := by omega
                have q2 : mb + 1 + 1 + 1 < wr.heap.size := by omega
                clear hsz hsz2
                go_wp2
                refine gen_world ?_
                intro W5 hW5
                rw [← World.setCell_alloc_past _ _ _ _ q1] at hW5
                have p1 : W5.cell? ⟨mb + 1 + 1 + 1, 1, none⟩ = some (.map (some mb)) := by
                  rw [hW5, World.cell?_setCell_other _ _ _ _ (by simp), World.cell?_alloc_past _ _ _ q2]
                  exact m1
                have p2 : W5.cell? ⟨J, 0, none⟩ = some (.int .u64 (ID x)) := by
                  rw [hW5, World.cell?_setCell_other _ _ _ _ (by simp <;> omega), World.cell?_alloc_past _ _ _ hJl]
                  exact cJ
                have hown5 : W5.ownsMap Ybaf.prog 31 ptrElem mb x D := by
                  rw [hW5]
                  exact (HM4.out.alloc _).setCell (by simp; omega) _
                obtain ⟨w6, hrun, hown6, hg6⟩ := hown5.drew.update law31 Ybaf.underlying28 (by unfold maxLen; omega) (keyOf_int_mk Ybaf.underlying31 (HJ.out.wf x)) (ptrElem_mk wr.heap.size)
                have hg5 : W5.grownBy w6 (some mb) := ⟨hg6.os, hg6.tape, hg6.output, hg6.size, hg6.block⟩
                have HB6 : Hid (Below w.heap.size w w6) := by
                  have h5 : Below w.heap.size w W5 := by
                    rw [hW5]
                    exact ((HTR.out.below HB1.out).alloc (by omega) _).setCell (by simp; omega) _
                  exact h5.grown hg5 h5.size (fun j hj => by simp at hj; omega)
                have HST := hid (HBd.out.step (ws := wr) (by omega) (by omega) (by omega) (by omega) (by omega) (by omega) hxk (fun b hb => HFr.out b (by rw [HJw.out]; exact hb)) (by rw [← HJw.out]; omega)
                  (entry_ok (w2 := w1) (lo := mb + 5) (by omega) HCl2.out HTR.out rfl rfl rfl) (w6 := w6) (by rw [← hW5]; exact hg5) hown6 rfl)
                clear hown5 hown6 hg6 hg5 hW5 m1 m2 m3 cJ
                go_region
                go_wp2
                go_roundw
                case rel => exact ⟨x + 1, by omega, by go_num, _, _, HST.out, HB6.out⟩
                case measure => simp [intOf]; omega
          · obtain rfl : x = k := by omega
            have HB := hid hbel
            have HBd := hid hBd
            clear hbel hBd
            go_wp2
            exact tail27 (F := F) ID ta tl tc S Ef D wr w hF HJ.out hlen HT.out HBd.out HB.out hj0 hj1 ht0 ht1 hq

end Go.Proofs.YbulkbypeFmt
