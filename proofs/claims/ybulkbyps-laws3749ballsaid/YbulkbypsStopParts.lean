/-
  For LawS3749BStop: the consumer's closure (function 9) and bearers' closure (10) that calls it.
-/
import Derived.Test.YbulkbypsCommon
namespace Go.Proofs.Ybulkbyps
open Go.RowKit Go.Maps

/-- The consumer's four variables: stopped, after, log, limit; the log's row lies from 'base' on. -/
structure St (base sb ab lb tb limit : Nat) (pre : List ByteArray) (st : Bool) (w : World) : Prop where
  s : w.cell? ⟨sb, 0, none⟩ = some (.bool st)
  fs : w.frozen? ⟨sb, 0, none⟩ = false
  a : w.cell? ⟨ab, 0, none⟩ = some (.bool false)
  l : ∃ v, w.cell? ⟨lb, 0, none⟩ = some v ∧ w.ownsRow base 9 1 v pre.length (pre.map Value.string)
  fl : w.frozen? ⟨lb, 0, none⟩ = false
  t : w.cell? ⟨tb, 0, none⟩ = some (.int .i64 limit)
  big : base ≤ w.heap.size

section
variable {base sb ab lb tb limit : Nat} {pre : List ByteArray} {w w1 : World}

theorem cell_block {w w' : World} {b o : Nat} {v : Value} (h : w.cell? ⟨b, o, none⟩ = some v) (e : w'.heap[b]? = w.heap[b]?) : w'.cell? ⟨b, o, none⟩ = some v := (World.cell?_of_block (a := ⟨b, o, none⟩) e).trans h
theorem frozen_block {w w' : World} {b o : Nat} (h : w.frozen? ⟨b, o, none⟩ = false) (e : w'.heap[b]? = w.heap[b]?) : w'.frozen? ⟨b, o, none⟩ = false := (World.frozen?_of_block (a := ⟨b, o, none⟩) e).trans h

/-- Behind the append: nothing below 'base' has turned. -/
theorem app_low {v : Value} {xs : List Value} {n : Nat} {o : Obj} (hown : w.ownsRow base 9 1 v n xs) (hbig : base ≤ w.heap.size) (hg : (w.alloc o).grownBy w1 v.ownBlock) : (∀ b, b < base → w1.heap[b]? = w.heap[b]?) ∧ base ≤ w1.heap.size := by
  refine ⟨fun b hb => ?_, by have := hg.size; simp at this; omega⟩
  rw [hg.block b (by simp; omega) (fun e => by have := hown.lt b e.symm; omega), Below.heap_alloc _ _ _ (by omega)]

/-- One string more in the log. -/
theorem St.more {st : Bool} (h : St base sb ab lb tb limit pre st w) (o1 : sb < base) (o2 : ab < base) (o3 : lb < base) (o4 : tb < base) (d1 : sb ≠ lb) (d2 : ab ≠ lb) (d3 : tb ≠ lb) {v : Value} {o : Obj} (hown : w.ownsRow base 9 1 v pre.length (pre.map Value.string))
    (hg : (w.alloc o).grownBy w1 v.ownBlock) {x : ByteArray} {v' : Value} (hown' : w1.ownsRow base 9 1 v' (pre ++ [x]).length ((pre ++ [x]).map Value.string)) :
    St base sb ab lb tb limit (pre ++ [x]) st (w1.setCell ⟨lb, 0, none⟩ v') := by
  obtain ⟨hl, hb⟩ := app_low hown h.big hg
  obtain ⟨v0, hv0, _⟩ := h.l
  have ne : ∀ b, b ≠ lb → (w1.setCell ⟨lb, 0, none⟩ v').heap[b]? = w1.heap[b]? := fun b e => Below.heap_setCell _ _ _ _ e
  refine ⟨cell_block h.s ((ne sb d1).trans (hl sb o1)), frozen_block h.fs ((ne sb d1).trans (hl sb o1)), cell_block h.a ((ne ab d2).trans (hl ab o2)), ⟨v', World.cell?_setCell_same _ _ _ (cell_block hv0 (hl lb o3)), ?_⟩, ?_, cell_block h.t ((ne tb d3).trans (hl tb o4)), by simpa using hb⟩
  · exact ownsRow_setCell_below hown' o3 _
  · rw [World.frozen?_setCell]
    exact frozen_block h.fl (hl lb o3)

/-- The consumer has had enough. -/
theorem St.stop {st st' : Bool} (h : St base sb ab lb tb limit pre st w) (o1 : sb < base) (d1 : sb ≠ lb) (d2 : ab ≠ sb) (d3 : tb ≠ sb) : St base sb ab lb tb limit pre st' (w.setCell ⟨sb, 0, none⟩ (.bool st')) := by
  obtain ⟨v, hv, hown⟩ := h.l
  have ne : ∀ b, b ≠ sb → (w.setCell ⟨sb, 0, none⟩ (.bool st')).heap[b]? = w.heap[b]? := fun b e => Below.heap_setCell _ _ _ _ e
  exact ⟨World.cell?_setCell_same _ _ _ h.s, by rw [World.frozen?_setCell]; exact h.fs, cell_block h.a (ne ab d2), ⟨v, cell_block hv (ne lb d1.symm), ownsRow_setCell_below hown o1 _⟩, by rw [World.frozen?_setCell]; exact h.fl, cell_block h.t (ne tb d3), by simpa using h.big⟩

end

/-- Where the variables lie. -/
structure Lay (B base sb ab lb tb : Nat) : Prop where
  o1 : sb < base
  o2 : ab < base
  o3 : lb < base
  o4 : tb < base
  d1 : sb ≠ lb
  d2 : ab ≠ lb
  d3 : tb ≠ lb
  d4 : ab ≠ sb
  d5 : tb ≠ sb
  b1 : B ≤ sb
  b2 : B ≤ lb

set_option maxRecDepth 20000 in
set_option maxHeartbeats 1000000 in
theorem yield_any (B base sb ab lb tb limit : Nat) (pre : List ByteArray) (x : ByteArray) (w : World) (hL : Lay B base sb ab lb tb) (h : St base sb ab lb tb limit pre false w) (hp : pre.length ≤ 2000) :
    Calls Yba.prog 9 #[.string x, .pointer (some ⟨sb, 0, none⟩), .pointer (some ⟨ab, 0, none⟩), .pointer (some ⟨lb, 0, none⟩), .pointer (some ⟨tb, 0, none⟩)] w fun e w' =>
      e = .returned (.bool (decide (pre.length + 1 < limit))) ∧ St base sb ab lb tb limit (pre ++ [x]) (!decide (pre.length + 1 < limit)) w' ∧ (∀ b, b < base → b ≠ sb → b ≠ lb → w'.heap[b]? = w.heap[b]?) ∧ Below B w w' := by
  obtain ⟨v, hv, hown⟩ := h.l
  have c1 := h.s
  have c3 := h.t
  have hbig := h.big
  have HS := hid h
  have HO := hid hown
  have HLay := hid hL
  have l1 := hL.o1
  have l3 := hL.o3
  have l4 := hL.o4
  have e1 := hL.d1
  have e3 := hL.d3
  have e5 := hL.d5
  have hB1 := hL.b1
  have hB2 := hL.b2
  obtain ⟨n, hn⟩ : ∃ n, n = pre.length := ⟨_, rfl⟩
  rw [← hn] at hp ⊢
  have HN := hid hn
  clear h hown hL hn
  have fin : ∀ (w1 : World) (v' : Value), w.heap.size ≤ w1.heap.size → (∀ b, b < base → w1.heap[b]? = w.heap[b]?) → w1.os = w.os ∧ w1.tape = w.tape ∧ w1.output = w.output → (∀ b, b < base → b ≠ sb → b ≠ lb → (w1.setCell ⟨lb, 0, none⟩ v').heap[b]? = w.heap[b]?) ∧ Below B w (w1.setCell ⟨lb, 0, none⟩ v') := fun w1 v' hs hl ho => by
    refine ⟨fun b h1 _ h3 => ?_, ?_⟩
    · rw [Below.heap_setCell _ _ _ _ h3]; exact hl b h1
    · exact (⟨ho.1, ho.2.1, ho.2.2, hs, fun b hb => hl b (by omega)⟩ : Below B w w1).setCell (p := ⟨lb, 0, none⟩) hB2 _
  have HF := hid fin
  clear fin
  by_cases hlt : n + 1 < limit
  · have hd : decide (n + 1 < limit) = true := by simpa using hlt
    have hge : ¬ ((limit : Int) ≤ (n : Int) + 1) := by omega
    rw [hd]
    go_enter Yba.func9, Yba.ntmps9
    go_wp2_with (at_builtin; refine wpList_app9 w rfl (.tmp 8) (.tmp 10) rfl base v n (pre.map Value.string) rfl (by rw [HN.out]; exact HO.out) x rfl (by omega) hbig ?_; intro g cap w1 o1' gr1; obtain ⟨low, big1⟩ := app_low HO.out hbig gr1; have k1 := cell_block hv (low lb l3); have k2 := frozen_block HS.out.fl (low lb l3); have k3 := cell_block c3 (low tb l4); have k4 := cell_block c1 (low sb l1); have k5 := frozen_block HS.out.fs (low sb l1); have HM := hid (HS.out.more l1 HLay.out.o2 l3 l4 e1 HLay.out.d2 e3 HO.out gr1 (x := x) (v' := .slice (some ⟨g, 0, none⟩) (n + 1) cap) (by rw [HN.out] at o1' ⊢; simpa using o1')); have HLow := hid low; have HG := hid gr1; clear low o1' gr1)
    go_ret
    obtain ⟨f1, f2⟩ := HF.out w1 (.slice (some ⟨g, 0, none⟩) (n + 1) cap) (by have := HG.out.size; simp at this; omega) HLow.out ⟨HG.out.os, HG.out.tape, HG.out.output⟩
    exact ⟨rfl, HM.out, f1, f2⟩
  · have hd : decide (n + 1 < limit) = false := by simpa using hlt
    have hge : (limit : Int) ≤ (n : Int) + 1 := by omega
    rw [hd]
    go_enter Yba.func9, Yba.ntmps9
    go_wp2_with (at_builtin; refine wpList_app9 w rfl (.tmp 8) (.tmp 10) rfl base v n (pre.map Value.string) rfl (by rw [HN.out]; exact HO.out) x rfl (by omega) hbig ?_; intro g cap w1 o1' gr1; obtain ⟨low, big1⟩ := app_low HO.out hbig gr1; have k1 := cell_block hv (low lb l3); have k2 := frozen_block HS.out.fl (low lb l3); have k3 := cell_block c3 (low tb l4); have k4 := cell_block c1 (low sb l1); have k5 := frozen_block HS.out.fs (low sb l1); have HM := hid (HS.out.more l1 HLay.out.o2 l3 l4 e1 HLay.out.d2 e3 HO.out gr1 (x := x) (v' := .slice (some ⟨g, 0, none⟩) (n + 1) cap) (by rw [HN.out] at o1' ⊢; simpa using o1')); have HLow := hid low; have HG := hid gr1; clear low o1' gr1)
    go_ret
    obtain ⟨f1, f2⟩ := HF.out w1 (.slice (some ⟨g, 0, none⟩) (n + 1) cap) (by have := HG.out.size; simp at this; omega) HLow.out ⟨HG.out.os, HG.out.tape, HG.out.output⟩
    exact ⟨rfl, HM.out.stop l1 e1 HLay.out.d4 e5, fun b h1 h2 h3 => (Below.heap_setCell _ _ _ _ h2).trans (f1 b h1 h2 h3), f2.setCell (p := ⟨sb, 0, none⟩) hB1 _⟩

/-- What bearers' closure reads: the name's box, the planner's box, the planner, its map, the name's providers: all below 'base', none of it the consumer's. -/
structure Src (base sb lb nb pb P mb k n : Nat) (ga : Option Addr) (gc : Nat) (name : ByteArray) (S : Nat → ByteArray) (D d : DataW Unit) (w : World) : Prop where
  cn : w.cell? ⟨nb, 0, none⟩ = some (.string name)
  cp : w.cell? ⟨pb, 0, none⟩ = some (.pointer (some ⟨P, 0, none⟩))
  cm : w.cell? ⟨P, 11, none⟩ = some (.map (some mb))
  own : w.ownsMap Yba.prog 9 slElem mb k D
  hE : slElem (.slice ga n gc) = some (d, [])
  hat : ∀ z, D.atKey (.string name.data.toList) z = d
  rows : ∀ i, i < n → ∃ g, ga = some ⟨g, 0, none⟩ ∧ (g < base ∧ g ≠ sb ∧ g ≠ lb) ∧ w.cell? ⟨g, i, none⟩ = some (.string (S i))
  on : nb < base ∧ nb ≠ sb ∧ nb ≠ lb
  op : pb < base ∧ pb ≠ sb ∧ pb ≠ lb
  oP : P < base ∧ P ≠ sb ∧ P ≠ lb
  om : mb < base ∧ mb ≠ sb ∧ mb ≠ lb

theorem Src.keep {base sb lb nb pb P mb k n : Nat} {ga : Option Addr} {gc : Nat} {name : ByteArray} {S : Nat → ByteArray} {D d : DataW Unit} {w w' : World} (h : Src base sb lb nb pb P mb k n ga gc name S D d w)
    (hk : ∀ b, b < base → b ≠ sb → b ≠ lb → w'.heap[b]? = w.heap[b]?) : Src base sb lb nb pb P mb k n ga gc name S D d w' := by
  refine ⟨cell_block h.cn (hk _ h.on.1 h.on.2.1 h.on.2.2), cell_block h.cp (hk _ h.op.1 h.op.2.1 h.op.2.2), cell_block h.cm (hk _ h.oP.1 h.oP.2.1 h.oP.2.2), ?_, h.hE, h.hat, fun i hi => ?_, h.on, h.op, h.oP, h.om⟩
  · obtain ⟨es, clock, h1, h2⟩ := h.own
    exact ⟨es, clock, (hk _ h.om.1 h.om.2.1 h.om.2.2).trans h1, h2⟩
  · obtain ⟨g, e, o, hc⟩ := h.rows i hi
    exact ⟨g, e, o, cell_block hc (hk _ o.1 o.2.1 o.2.2)⟩

set_option maxRecDepth 20000 in
set_option maxHeartbeats 1000000 in
theorem seq_stop (B base sb ab lb tb limit nb pb P mb k n : Nat) (ga : Option Addr) (gc : Nat) (name : ByteArray) (S : Nat → ByteArray) (D d : DataW Unit) (w : World) (hL : Lay B base sb ab lb tb) (h : St base sb ab lb tb limit [] false w)
    (hs : Src base sb lb nb pb P mb k n ga gc name S D d w) (hn : n ≤ 1024) (h1 : 1 ≤ limit) (h2 : limit ≤ 11) (hsz : name.size ≤ maxLen) :
    Calls Yba.prog 10 #[.func (.func 9) #[] #[.pointer (some ⟨sb, 0, none⟩), .pointer (some ⟨ab, 0, none⟩), .pointer (some ⟨lb, 0, none⟩), .pointer (some ⟨tb, 0, none⟩)], .pointer (some ⟨nb, 0, none⟩), .pointer (some ⟨pb, 0, none⟩)] w fun e w' =>
      e = .returned (.tuple #[]) ∧ (∃ st, St base sb ab lb tb limit ((name :: kept S name n).take limit) st w') ∧ Below B w w' := by
  have HL := hid hL
  have HT := hid h
  have HS := hid hs
  have cn := hs.cn
  clear hL h hs
  by_cases hl1 : limit = 1
  · have HE : Hid (decide ((([] : List ByteArray)).length + 1 < limit) = false) := by rw [Hid, hl1]; decide
    go_enter Yba.func10, Yba.ntmps10
    go_wp2_with (go_at_call 9; refine (yield_any B base sb ab lb tb limit [] name _ HL.out HT.out (by simp)).mono ?_; rintro e w1 ⟨rfl, hSt, hk, hb⟩; rw [HE.out])
    have hSt' : St base sb ab lb tb limit ((name :: kept S name n).take limit) true w1 := by
      rw [HE.out] at hSt
      rw [show (name :: kept S name n).take limit = [name] from by rw [hl1]; rfl]
      simpa using hSt
    exact bodyPost_ret (results_none rfl _ _ w1) rfl ⟨rfl, ⟨_, hSt'⟩, hb⟩
  · have HE : Hid (decide ((([] : List ByteArray)).length + 1 < limit) = true) := by rw [Hid]; simp; omega
    go_enter Yba.func10, Yba.ntmps10
    go_wp2_with (go_at_call 9; refine (yield_any B base sb ab lb tb limit [] name _ HL.out HT.out (by simp)).mono ?_; rintro e w1 ⟨rfl, hSt, hk, hb⟩; rw [HE.out])
    have HS1 := hid (HS.out.keep hk)
    have HT1 : Hid (St base sb ab lb tb limit [name] false w1) := by
      rw [HE.out] at hSt
      rw [Hid]
      simpa using hSt
    have HK := hid hk
    have HB := hid hb
    have a1 := HS1.out.cn
    have a2 := HS1.out.cp
    have a3 := HS1.out.cm
    have hlk := look_name HS1.out.own hsz HS1.out.hE HS1.out.hat
    clear hSt hk hb cn HT
    go_quiet (fail)
    go_wp2
    clear a1 a2 a3 hlk
    go_loopw [17] (fun i wr => ∃ j : Nat, j ≤ n ∧ i = .int .i64 j ∧ St base sb ab lb tb limit (name :: kept S name j) false wr ∧ Src base sb lb nb pb P mb k n ga gc name S D d wr ∧ Below B w wr ∧ (name :: kept S name j).length < limit) (fun i _ => n - (intOf i).toNat)
    case atStart =>
      refine ⟨0, by omega, rfl, ?_, ?_, below_drewN HB.out _, by simp [kept]; omega⟩
      · exact ⟨HT1.out.s, HT1.out.fs, HT1.out.a, HT1.out.l, HT1.out.fl, HT1.out.t, HT1.out.big⟩
      · exact HS1.out.keep (fun _ _ _ _ => rfl)
    case round =>
      clear HS1 HT1 HK HB HS
      obtain ⟨j, hj, rfl, hT, hS, hB, hlen⟩ := hrel
      by_cases hjn : j < n
      · obtain ⟨g, rfl, _, cg⟩ := hS.rows j hjn
        have cn := hS.cn
        have HS := hid hS
        have HT := hid hT
        have HB := hid hB
        have HLen := hid hlen
        have hkl := kept_le S name j
        clear hS hT hB hlen
        by_cases hh : (S j).toList = name.toList
        · have hb : ((S j).toList == name.toList) = true := by simpa using hh
          have HK := hid (kept_hit hh)
          clear hh
          go_wp2
          go_roundw
          case rel => exact ⟨j + 1, by omega, by go_num, by rw [HK.out]; exact HT.out, HS.out, HB.out, by rw [HK.out]; exact HLen.out⟩
          case measure => simp [intOf]; omega
        · have hb : ((S j).toList == name.toList) = false := by simpa using hh
          have HK := hid (kept_miss hh)
          clear hh
          have HP : Hid (name :: kept S name (j + 1) = (name :: kept S name j) ++ [S j]) := by rw [Hid, HK.out]; rfl
          by_cases hgo : (name :: kept S name j).length + 1 < limit
          · have HD : Hid (decide ((name :: kept S name j).length + 1 < limit) = true) := by rw [Hid]; simpa using hgo
            have HGo := hid hgo
            clear hgo
            go_wp2_with (go_at_call 9; refine (yield_any B base sb ab lb tb limit (name :: kept S name j) (S j) _ HL.out HT.out (by simp; omega)).mono ?_; rintro e w1 ⟨rfl, hSt, hk, hb1⟩; rw [HD.out])
            have HN : Hid (St base sb ab lb tb limit (name :: kept S name (j + 1)) false w1) := by
              rw [Hid, HP.out]
              rw [HD.out] at hSt
              exact hSt
            go_roundw
            case rel => exact ⟨j + 1, by omega, by go_num, HN.out, HS.out.keep hk, HB.out.trans hb1, by rw [HP.out, List.length_append]; exact HGo.out⟩
            case measure => simp [intOf]; omega
          · have HD : Hid (decide ((name :: kept S name j).length + 1 < limit) = false) := by rw [Hid]; simpa using hgo
            have HGo := hid hgo
            clear hgo
            go_wp2_with (go_at_call 9; refine (yield_any B base sb ab lb tb limit (name :: kept S name j) (S j) _ HL.out HT.out (by simp; omega)).mono ?_; rintro e w1 ⟨rfl, hSt, hk, hb1⟩; rw [HD.out])
            have hSt' : St base sb ab lb tb limit ((name :: kept S name n).take limit) true w1 := by
              have hpre : name :: kept S name (j + 1) <+: name :: kept S name n := List.cons_prefix_cons.2 ⟨rfl, kept_prefix S name hjn⟩
              have hl : (name :: kept S name (j + 1)).length = limit := by
                have h3 := HLen.out
                have h4 := HGo.out
                rw [HP.out, List.length_append]
                simp only [List.length_cons, List.length_nil] at h3 h4 ⊢
                omega
              rw [HD.out] at hSt
              rw [show (name :: kept S name n).take limit = (name :: kept S name j) ++ [S j] from by rw [← hl, ← List.prefix_iff_eq_take.1 hpre, HP.out]]
              exact hSt
            exact bodyPost_ret (results_none rfl _ _ w1) rfl ⟨rfl, ⟨_, hSt'⟩, HB.out.trans hb1⟩
      · obtain rfl : j = n := by omega
        have hT' : St base sb ab lb tb limit ((name :: kept S name j).take limit) false wr := by
          rw [List.take_of_length_le (by omega)]
          exact hT
        clear hT
        go_wp2
        go_end0
        exact ⟨rfl, ⟨false, hT'⟩, hB⟩

end Go.Proofs.Ybulkbyps
