/-
  For LawS3751CCall: the law's text behind the call.
-/
import Derived.Test.YbulkbyquParts
namespace Go.Proofs.Ybulkbyqu
open Go.RowKit

/-! ### the text, statement by statement -/
/-- The text behind the first n statements. -/
def sndN : Nat → Code → Code
  | 0, c => c
  | n + 1, .seq _ b => sndN n b
  | _ + 1, c => c
/-- The statement behind the first n. -/
def fstN : Nat → Code → Code
  | 0, .seq a _ => a
  | n + 1, .seq _ b => fstN n b
  | _, c => c

/-- A name for the world. -/
theorem gen_world {P : Program} {c : Code} {Q : Exit → Act → World → Prop} {a : Act} {W : World} (h : ∀ W', W' = W → Code.wp P c Q a W') : Code.wp P c Q a W := h W rfl

set_option maxRecDepth 20000 in
set_option maxHeartbeats 1000000 in
theorem law_last {u0 u1 u2 u3 u4 u6 u8 u9 u10 u11 u12 u16 u17 u18 u19 u20 u21 u22 u23 u24 u25 u26 u27 u28 u29 u30 u31 u32 u33 u34 u35 u36 u37 u38 u39 u40 u41 u42 u43 u44 u45 u46 u47 u48 u49 u50 u51 u52 u53 u54 u55 u56 u57 u58 u59 u60 u61 u62 u63 u64 u65 u66 u67 u68 u69 : Value} {db vb hb xb kb : Nat} (dp k : Bool) (val h x : Int) (W w : World) (hbw : Below w.heap.size w W) (c4 : W.cell? ⟨db, 0, none⟩ = some (.bool dp))
    (c5 : W.cell? ⟨hb, 0, none⟩ = some (.int .i64 h)) (c6 : W.cell? ⟨xb, 0, none⟩ = some (.int .i64 x)) (c7 : W.cell? ⟨kb, 0, none⟩ = some (.bool k)) (c8 : W.cell? ⟨vb, 0, none⟩ = some (.int .i64 val)) (hok : if dp then h = 1 ∧ k = true ∧ x = val else h = 0) :
    Code.wp Yba.prog (sndN 15 (Yba.f3.body.getD .skip)) (bodyPost Yba.prog Yba.f3 fun e w' => e = .returned (.bool true) ∧ Below w.heap.size w w') { tmps := (u0 :: u1 :: u2 :: u3 :: u4 :: (Value.pointer (some ⟨db, 0, none⟩)) :: u6 :: (Value.pointer (some ⟨vb, 0, none⟩)) :: u8 :: u9 :: u10 :: u11 :: u12 :: (Value.pointer (some ⟨hb, 0, none⟩)) :: (Value.pointer (some ⟨xb, 0, none⟩)) :: (Value.pointer (some ⟨kb, 0, none⟩)) :: u16 :: u17 :: u18 :: u19 :: u20 :: u21 :: u22 :: u23 :: u24 :: u25 :: u26 :: u27 :: u28 :: u29 :: u30 :: u31 :: u32 :: u33 :: u34 :: u35 :: u36 :: u37 :: u38 :: u39 :: u40 :: u41 :: u42 :: u43 :: u44 :: u45 :: u46 :: u47 :: u48 :: u49 :: u50 :: u51 :: u52 :: u53 :: u54 :: u55 :: u56 :: u57 :: u58 :: u59 :: u60 :: u61 :: u62 :: u63 :: u64 :: u65 :: u66 :: u67 :: u68 :: u69 :: ([] : List Value)).toArray, defers := [] } W := by
  have HB := hid hbw
  clear hbw
  cases dp
  · obtain rfl : h = 0 := by simpa using hok
    clear hok
    simp only [Yba.f3, Option.getD_some, sndN]
    go_wp2
    go_ret
    exact ⟨rfl, HB.out⟩
  · obtain ⟨rfl, rfl, rfl⟩ : h = 1 ∧ k = true ∧ x = val := by simpa using hok
    clear hok
    simp only [Yba.f3, Option.getD_some, sndN]
    go_wp2
    go_ret
    exact ⟨rfl, HB.out⟩

/-- A row of the numbers below n, as a slice. -/
theorem own_ints {w : World} {base n : Nat} {v : Value} (h : w.ownsRow base 3 1 v n (upto n)) : ∃ ga cap, v = .slice ga n cap ∧ ∀ i, i < n → ∃ g, ga = some ⟨g, 0, none⟩ ∧ w.cell? ⟨g, i, none⟩ = some (.int .i64 (i : Int)) := by
  rcases h.2 with ⟨rfl, h0⟩ | ⟨g, cap, cur, rfl, _⟩
  · exact ⟨none, 0, by rw [h0], fun i hi => by omega⟩
  · refine ⟨some ⟨g, 0, none⟩, cap, rfl, fun i hi => ⟨g, rfl, ?_⟩⟩
    rw [World.ownsRow.cellAt h i (by omega)]
    simp [upto, hi]

set_option maxRecDepth 20000 in
set_option maxHeartbeats 1000000 in
theorem law_end {u0 u1 u2 u3 u4 u6 u8 u9 u16 u17 u18 u19 u20 u21 u22 u23 u24 u25 u26 u27 u28 u29 u30 u31 u32 u33 u34 u35 u36 u37 u38 u39 u40 u41 u42 u43 u44 u45 u46 u47 u48 u49 u50 u51 u52 u53 u54 u55 u56 u57 u58 u59 u60 u61 u62 u63 u64 u65 u66 u67 u68 u69 : Value} {db vb sb lb cb hb xb kb : Nat} (stop cap : Nat) (ga : Option Addr) (dp k : Bool) (val h x : Int) (W w : World) (hst : stop ≤ 1024) (hbw : Below w.heap.size w W)
    (c1 : W.cell? ⟨cb, 0, none⟩ = some (.int .i64 1)) (c2 : W.cell? ⟨lb, 0, none⟩ = some (.slice ga stop cap)) (rows : ∀ i, i < stop → ∃ g, ga = some ⟨g, 0, none⟩ ∧ W.cell? ⟨g, i, none⟩ = some (.int .i64 (i : Int))) (c3 : W.cell? ⟨sb, 0, none⟩ = some (.int .i64 stop)) (c4 : W.cell? ⟨db, 0, none⟩ = some (.bool dp))
    (c5 : W.cell? ⟨hb, 0, none⟩ = some (.int .i64 h)) (c6 : W.cell? ⟨xb, 0, none⟩ = some (.int .i64 x)) (c7 : W.cell? ⟨kb, 0, none⟩ = some (.bool k)) (c8 : W.cell? ⟨vb, 0, none⟩ = some (.int .i64 val)) (hok : if dp then h = 1 ∧ k = true ∧ x = val else h = 0) :
    Code.wp Yba.prog (sndN 13 (Yba.f3.body.getD .skip)) (bodyPost Yba.prog Yba.f3 fun e w' => e = .returned (.bool true) ∧ Below w.heap.size w w') { tmps := (u0 :: u1 :: u2 :: u3 :: u4 :: (Value.pointer (some ⟨db, 0, none⟩)) :: u6 :: (Value.pointer (some ⟨vb, 0, none⟩)) :: u8 :: u9 :: (Value.pointer (some ⟨sb, 0, none⟩)) :: (Value.pointer (some ⟨lb, 0, none⟩)) :: (Value.pointer (some ⟨cb, 0, none⟩)) :: (Value.pointer (some ⟨hb, 0, none⟩)) :: (Value.pointer (some ⟨xb, 0, none⟩)) :: (Value.pointer (some ⟨kb, 0, none⟩)) :: u16 :: u17 :: u18 :: u19 :: u20 :: u21 :: u22 :: u23 :: u24 :: u25 :: u26 :: u27 :: u28 :: u29 :: u30 :: u31 :: u32 :: u33 :: u34 :: u35 :: u36 :: u37 :: u38 :: u39 :: u40 :: u41 :: u42 :: u43 :: u44 :: u45 :: u46 :: u47 :: u48 :: u49 :: u50 :: u51 :: u52 :: u53 :: u54 :: u55 :: u56 :: u57 :: u58 :: u59 :: u60 :: u61 :: u62 :: u63 :: u64 :: u65 :: u66 :: u67 :: u68 :: u69 :: ([] : List Value)).toArray, defers := [] } W := by
  have HR := hid rows
  have HB := hid hbw
  have HC4 := hid c4
  have HC5 := hid c5
  have HC6 := hid c6
  have HC7 := hid c7
  have HC8 := hid c8
  clear rows hbw c4 c5 c6 c7 c8
  refine wp_seq_k (x := fstN 13 (Yba.f3.body.getD .skip)) (y := sndN 14 (Yba.f3.body.getD .skip)) (fun K13 hK13 => ?_)
  simp only [Yba.f3, Option.getD_some, fstN]
  go_wp2
  clear c1 c3
  refine wp_seq_k (x := fstN 14 (Yba.f3.body.getD .skip)) (y := sndN 15 (Yba.f3.body.getD .skip)) (fun K14 hK14 => ?_)
  simp only [Yba.f3, Option.getD_some, fstN]
  go_wp2
  go_loopw [18] (fun i wr => ∃ j : Nat, j ≤ stop ∧ i = .int .i64 j ∧ wr = W) (fun i _ => stop - (intOf i).toNat)
  case atStart => exact ⟨0, by omega, rfl, rfl⟩
  case round =>
    obtain ⟨j, hj, rfl, rfl⟩ := hrel
    by_cases hlt : j < stop
    · obtain ⟨g, rfl, cg⟩ := HR.out j hlt
      go_wp2
      go_roundw
      case rel => exact ⟨j + 1, by omega, by go_num, trivial⟩
      case measure => simp [intOf]; omega
    · obtain rfl : j = stop := by omega
      go_wp2
      exact law_last dp k val h x _ w HB.out HC4.out HC5.out HC6.out HC7.out HC8.out hok

end Go.Proofs.Ybulkbyqu
