/-
  For LawS3751CCall: the contracts of the law's two closures, of call's deferred closure and of call.
-/
import Derived.Test.YbulkbyquRows
import Derived.WalkKit
import Derived.WalkSpells
import Derived.WalkLawsBesides
import Derived.ProofKit
import Derived.Defers
import Derived.Recover
import Derived.Laws.Pointers
import Derived.Maps.AppendAt
namespace Go.Proofs.Ybulkbyqu
open Go.RowKit

theorem hid {p : Prop} (h : p) : Hid p := h

theorem cell_block {w w' : World} {b o : Nat} {v : Value} (h : w.cell? ⟨b, o, none⟩ = some v) (e : w'.heap[b]? = w.heap[b]?) : w'.cell? ⟨b, o, none⟩ = some v := (World.cell?_of_block (a := ⟨b, o, none⟩) e).trans h
theorem frozen_block {w w' : World} {b o : Nat} (h : w.frozen? ⟨b, o, none⟩ = false) (e : w'.heap[b]? = w.heap[b]?) : w'.frozen? ⟨b, o, none⟩ = false := (World.frozen?_of_block (a := ⟨b, o, none⟩) e).trans h

/-- Block b is a variable of one cell. -/
structure Var (w : World) (b : Nat) (v : Value) : Prop where
  c : w.cell? ⟨b, 0, none⟩ = some v
  f : w.frozen? ⟨b, 0, none⟩ = false

theorem Var.keep {w w' : World} {b : Nat} {v : Value} (h : Var w b v) (e : w'.heap[b]? = w.heap[b]?) : Var w' b v := ⟨cell_block h.c e, frozen_block h.f e⟩
theorem Var.set {w : World} {b : Nat} {v : Value} (h : Var w b v) (v' : Value) : Var (w.setCell ⟨b, 0, none⟩ v') b v' := ⟨World.cell?_setCell_same _ _ _ h.c, by rw [World.frozen?_setCell]; exact h.f⟩
theorem Var.other {w : World} {b b' : Nat} {v v' : Value} (h : Var w b v) (ne : b ≠ b') : Var (w.setCell ⟨b', 0, none⟩ v') b v := h.keep (Below.heap_setCell _ _ _ _ ne)

/-! ### onPanic -/
theorem assert_int (val : Int) (w : World) : (Instr.typeAssert (.iface 3 (.int .i64 val)) 20 3 true).run Yba.prog w = .ok (.tuple #[.int .i64 val, .bool true]) w := by kernel_rfl
set_option maxRecDepth 20000 in
set_option maxHeartbeats 400000 in
theorem onPanic_any (hb vb kb : Nat) (val : Int) (x : Int) (y : Bool) (w : World) (h1 : Var w hb (.int .i64 0)) (h2 : Var w vb (.int .i64 x)) (h3 : Var w kb (.bool y)) (d1 : hb ≠ vb) (d2 : hb ≠ kb) (d3 : vb ≠ kb) :
    Calls Yba.prog 4 #[.iface 3 (.int .i64 val), .pointer (some ⟨hb, 0, none⟩), .pointer (some ⟨vb, 0, none⟩), .pointer (some ⟨kb, 0, none⟩)] w fun e w' =>
      e = .returned (.tuple #[]) ∧ w' = ((w.setCell ⟨hb, 0, none⟩ (.int .i64 1)).setCell ⟨vb, 0, none⟩ (.int .i64 val)).setCell ⟨kb, 0, none⟩ (.bool true) := by
  have hta := assert_int val
  have c1 := h1.c
  have f1 := h1.f
  have a2 := h2.other (v' := .int .i64 1) d1.symm
  have c2 := a2.c
  have f2 := a2.f
  have a3 := (h3.other (v' := .int .i64 1) d2.symm).other (v' := .int .i64 val) d3.symm
  have c3 := a3.c
  have f3 := a3.f
  go_enter Yba.func4, Yba.ntmps4
  go_wp2
  go_end0
  exact ⟨rfl, rfl⟩

/-! ### the task -/
theorem info3 : (Yba.prog.info? 3).map (fun i => (i.zero, i.size, i.bytes)) = some (some (.int .i64 0), 1, 8) := by kernel_rfl
theorem wpList_app3 {ops : Array Oper} {rest : List Oper} {o : Oper} {a : Act} {Q : Exit → Act → World → Prop} (w : World) (hgd : o.guard = none) (s x : Operand)
    (ho : o.op = .call { callee := .builtin .append, args := #[s, x], argTypes := #[23, 23] })
    (base : Nat) (v : Value) (n : Nat) (xs : List Value) (hs : a.eval s = v) (hown : w.ownsRow base 3 1 v n xs) (t : Int) (hx : a.eval x = .slice (some ⟨w.heap.size, 0, none⟩) 1 1)
    (hn : n ≤ 100000) (hbase : base ≤ w.heap.size)
    (h : ∀ g cap w', w'.ownsRow base 3 1 (.slice (some ⟨g, 0, none⟩) (n + 1) cap) (n + 1) (xs ++ [.int .i64 t]) → (w.alloc (.cells #[.int .i64 t] 3)).grownBy w' v.ownBlock → wpList Yba.prog ops Q rest (a.put o.dst (.slice (some ⟨g, 0, none⟩) (n + 1) cap)) w') :
    wpList Yba.prog ops Q (o :: rest) a (w.alloc (.cells #[.int .i64 t] 3)) := by
  obtain ⟨i0, hi, hz0, hz1, hz2⟩ := info_parts info3
  refine wpList_append_own (w.alloc (.cells #[.int .i64 t] 3)) hgd s x 23 ho base 3 i0 (.int .i64 0) 1 8 Yba.underlying23 hi hz0 hz1 hz2 rfl (by decide) v n xs hs (hown.alloc _) ⟨w.heap.size, 0, none⟩ 1 1 [.int .i64 t] hx rfl (cell_one_new _ _ _) ?_ (by unfold maxLen; omega) (by omega) (by simp; omega) ?_
  · intro u hu
    simp at hu
    subst hu
    rfl
  · intro v' w' hown' hgrow _
    rcases hown'.2 with ⟨_, h0⟩ | ⟨g, cap, _, rfl, _⟩
    · omega
    · exact h g cap w' hown' hgrow

/-- Behind the append: nothing below 'base' has turned. -/
theorem app_low {w w1 : World} {base : Nat} {v : Value} {xs : List Value} {n : Nat} {o : Obj} (hown : w.ownsRow base 3 1 v n xs) (hbig : base ≤ w.heap.size) (hg : (w.alloc o).grownBy w1 v.ownBlock) : (∀ b, b < base → w1.heap[b]? = w.heap[b]?) ∧ base ≤ w1.heap.size := by
  refine ⟨fun b hb => ?_, by have := hg.size; simp at this; omega⟩
  rw [hg.block b (by simp; omega) (fun e => by have := hown.lt b e.symm; omega), Below.heap_alloc _ _ _ (by omega)]

/-- The numbers below n. -/
def upto (n : Nat) : List Value := (List.range n).map fun (i : Nat) => .int .i64 (i : Int)
theorem upto_succ (n : Nat) : upto (n + 1) = upto n ++ [.int .i64 (n : Int)] := by simp [upto, List.range_succ]
theorem upto_length (n : Nat) : (upto n).length = n := by simp [upto]

/-- The task, j rounds on. -/
structure Tk (base cb lb : Nat) (j : Nat) (w wr : World) : Prop where
  c : Var wr cb (.int .i64 1)
  l : ∃ v, Var wr lb v ∧ wr.ownsRow base 3 1 v j (upto j)
  big : base ≤ wr.heap.size
  same : ∀ b, b < base → b ≠ cb → b ≠ lb → wr.heap[b]? = w.heap[b]?

theorem Tk.more {B base cb lb j : Nat} {w wr w1 : World} {v : Value} {g cap : Nat} (h : Tk base cb lb j w wr) (o1 : cb < base) (o2 : lb < base) (d : cb ≠ lb) (hv : Var wr lb v) (hown : wr.ownsRow base 3 1 v j (upto j)) (hb : Below B w wr) (hB : B ≤ lb) (hg : (wr.alloc (.cells #[.int .i64 (j : Int)] 3)).grownBy w1 v.ownBlock)
    (hown' : w1.ownsRow base 3 1 (.slice (some ⟨g, 0, none⟩) (j + 1) cap) (j + 1) (upto j ++ [.int .i64 (j : Int)])) :
    Var w1 lb v ∧ Tk base cb lb (j + 1) w (w1.setCell ⟨lb, 0, none⟩ (.slice (some ⟨g, 0, none⟩) (j + 1) cap)) ∧ Below B w (w1.setCell ⟨lb, 0, none⟩ (.slice (some ⟨g, 0, none⟩) (j + 1) cap)) := by
  obtain ⟨low, big⟩ := app_low hown h.big hg
  have hbig := h.big
  refine ⟨hv.keep (low lb o2), ⟨(h.c.keep (low cb o1)).other d, ⟨_, (hv.keep (low lb o2)).set _, ?_⟩, by simpa using big, fun b h1 h2 h3 => ?_⟩, ?_⟩
  · rw [upto_succ]; exact ownsRow_setCell_below hown' o2 _
  · rw [Below.heap_setCell _ _ _ _ h3, low b h1, h.same b h1 h2 h3]
  · refine ((hb.alloc (by omega) _).grown hg (by simp; omega) (fun k hk => ?_)).setCell (p := ⟨lb, 0, none⟩) hB _
    have := (hown.lt k hk).1
    omega

set_option maxRecDepth 20000 in
set_option maxHeartbeats 1000000 in
theorem task_any (B base cb sb lb db vb stop : Nat) (dp : Bool) (val : Int) (w : World) (hst : stop ≤ 1024) (hbase : base ≤ w.heap.size) (o1 : cb < base) (o2 : sb < base) (o3 : lb < base) (o4 : db < base) (o5 : vb < base)
    (d1 : cb ≠ lb) (d2 : sb ≠ cb) (d3 : sb ≠ lb) (d4 : db ≠ cb) (d5 : db ≠ lb) (d6 : vb ≠ cb) (d7 : vb ≠ lb) (hB1 : B ≤ cb) (hB2 : B ≤ lb)
    (hc : Var w cb (.int .i64 0)) (hs : w.cell? ⟨sb, 0, none⟩ = some (.int .i64 stop)) (hl : Var w lb (.slice none 0 0)) (hd : w.cell? ⟨db, 0, none⟩ = some (.bool dp)) (hv : w.cell? ⟨vb, 0, none⟩ = some (.int .i64 val)) :
    Calls Yba.prog 5 #[.pointer (some ⟨cb, 0, none⟩), .pointer (some ⟨sb, 0, none⟩), .pointer (some ⟨lb, 0, none⟩), .pointer (some ⟨db, 0, none⟩), .pointer (some ⟨vb, 0, none⟩)] w fun e w' =>
      e = (if dp then .panicked [{ v := .iface 3 (.int .i64 val), recovered := false }] else .returned (.tuple #[])) ∧ Tk base cb lb stop w w' ∧ Below B w w' := by
  have c1 := hc.c
  have f1 := hc.f
  have hne : ∀ b, b ≠ cb → (w.setCell ⟨cb, 0, none⟩ (.int .i64 1)).heap[b]? = w.heap[b]? := fun b e => Below.heap_setCell _ _ _ _ e
  have H0 : Hid (Tk base cb lb 0 w (w.setCell ⟨cb, 0, none⟩ (.int .i64 1))) := hid ⟨hc.set _, ⟨_, hl.other d1.symm, World.ownsRow_nil _ _ _ _⟩, by simpa using hbase, fun b _ h2 _ => hne b h2⟩
  have HB0 : Hid (Below B w (w.setCell ⟨cb, 0, none⟩ (.int .i64 1))) := hid ((Below.refl B w).setCell (p := ⟨cb, 0, none⟩) hB1 _)
  have HHs := hid hs
  have HHd := hid hd
  have HHv := hid hv
  clear hs hd hv hl hc hne
  go_enter Yba.func5, Yba.ntmps5
  go_wp2
  clear c1 f1
  go_loopw [5] (fun i wr => ∃ j : Nat, j ≤ stop ∧ i = .int .i64 j ∧ Tk base cb lb j w wr ∧ Below B w wr) (fun i _ => stop - (intOf i).toNat)
  case atStart => exact ⟨0, by omega, rfl, H0.out, HB0.out⟩
  case round =>
    clear H0 HB0
    obtain ⟨j, hj, rfl, hT, hB⟩ := hrel
    have cs := cell_block HHs.out (hT.same sb o2 d2 d3)
    by_cases hlt : j < stop
    · obtain ⟨v, hv, hown⟩ := hT.l
      have cl := hv.c
      have hbig := hT.big
      have HT := hid hT
      have HB := hid hB
      have HV := hid hv
      have HO := hid hown
      clear hT hB hv hown
      go_wp2_with (at_builtin; refine wpList_app3 wr rfl (.tmp 13) (.tmp 15) rfl base v j (upto j) rfl HO.out (j : Int) rfl (by omega) hbig ?_; intro g cap w1 o1' gr1; have HM := hid (HT.out.more o1 o3 d1 HV.out HO.out HB.out hB2 gr1 o1'); have k1 := HM.out.1.c; have k2 := HM.out.1.f; clear o1' gr1)
      go_roundw
      case rel => exact ⟨j + 1, by omega, by go_num, HM.out.2.1, HM.out.2.2⟩
      case measure => simp [intOf]; omega
    · obtain rfl : j = stop := by omega
      have cd := cell_block HHd.out (hT.same db o4 d4 d5)
      have cv := cell_block HHv.out (hT.same vb o5 d6 d7)
      cases dp
      · go_wp2
        go_end0
        exact ⟨rfl, hT, hB⟩
      · go_wp2
        exact ⟨rfl, rfl, hT, hB⟩

/-! ### call's deferred closure -/
set_option maxRecDepth 20000 in
set_option maxHeartbeats 1000000 in
theorem catch_panicking (tb T hb vb kb : Nat) (val x : Int) (y : Bool) (older : List PanicEntry) (w : World) (ct : w.cell? ⟨tb, 0, none⟩ = some (.pointer (some ⟨T, 0, none⟩))) (cf : w.cell? ⟨T, 1, none⟩ = some (.func (.func 4) #[] #[.pointer (some ⟨hb, 0, none⟩), .pointer (some ⟨vb, 0, none⟩), .pointer (some ⟨kb, 0, none⟩)]))
    (h1 : Var w hb (.int .i64 0)) (h2 : Var w vb (.int .i64 x)) (h3 : Var w kb (.bool y)) (d1 : hb ≠ vb) (d2 : hb ≠ kb) (d3 : vb ≠ kb) :
    CallsD Yba.prog 7 #[.pointer (some ⟨tb, 0, none⟩)] (.panicking ({ v := .iface 3 (.int .i64 val), recovered := false } :: older)) w fun e u' w' =>
      e = .returned (.tuple #[]) ∧ u' = .panicking ({ v := .iface 3 (.int .i64 val), recovered := true } :: older) ∧ w' = ((w.setCell ⟨hb, 0, none⟩ (.int .i64 1)).setCell ⟨vb, 0, none⟩ (.int .i64 val)).setCell ⟨kb, 0, none⟩ (.bool true) := by
  refine callsD_of_wpS Yba.func7 rfl fun c₀ cs hu => ?_
  apply wpS_seq
  apply wpS_region
  simp [wpOpsS, go_sem, recoverD, hu, Yba.ntmps7, Exit.thenS]
  refine wpS_of_wp ?_
  have HO := hid (onPanic_any hb vb kb val x y w h1 h2 h3 d1 d2 d3)
  clear h1 h2 h3 d1 d2 d3
  refine (show Code.wp Yba.prog _ _ { tmps := #[.pointer (some ⟨tb, 0, none⟩), .iface 3 (.int .i64 val), .iface 3 (.int .i64 val), undef, undef, undef, undef, undef, undef, undef, undef], defers := [] } w from ?_)
  go_wp2_with (go_at_call 4; refine HO.out.mono ?_; rintro e w1 ⟨rfl, rfl⟩)
  exact ⟨rfl, _, rfl, _, results_none rfl _ _ _, rfl, rfl, rfl⟩

set_option maxRecDepth 20000 in
set_option maxHeartbeats 1000000 in
theorem catch_idle (tb : Nat) (w : World) :
    CallsD Yba.prog 7 #[.pointer (some ⟨tb, 0, none⟩)] .returning w fun e u' w' => e = .returned (.tuple #[]) ∧ u' = .returning ∧ w' = w := by
  refine callsD_of_wpS Yba.func7 rfl fun c₀ cs hu => ?_
  apply wpS_seq
  apply wpS_region
  simp [wpOpsS, go_sem, recoverD, hu, Yba.ntmps7, Exit.thenS]
  refine wpS_of_wp ?_
  refine (show Code.wp Yba.prog _ _ { tmps := #[.pointer (some ⟨tb, 0, none⟩), .nilIface, .nilIface, undef, undef, undef, undef, undef, undef, undef, undef], defers := [] } w from ?_)
  go_wp2
  exact ⟨rfl, .returning, by rw [← hu], _, results_none rfl _ _ _, rfl, rfl, rfl⟩

/-! ### call -/
theorem hmf (fn : Fn) (first cap : Array Value) (w : World) : (Instr.makeFunc fn first cap).run Yba.prog w = .ok (.func fn first cap) w := rfl

/-- The task of the law. -/
def task (cb sb lb db vb : Nat) : Value := .func (.func 5) #[] #[.pointer (some ⟨cb, 0, none⟩), .pointer (some ⟨sb, 0, none⟩), .pointer (some ⟨lb, 0, none⟩), .pointer (some ⟨db, 0, none⟩), .pointer (some ⟨vb, 0, none⟩)]

set_option maxRecDepth 20000 in
set_option maxHeartbeats 1000000 in
theorem call_panics (B base cb sb lb db vb T hb xb kb stop : Nat) (val : Int) (w : World) (hst : stop ≤ 1024) (hbase : base = w.heap.size) (o1 : cb < base) (o2 : sb < base) (o3 : lb < base) (o4 : db < base) (o5 : vb < base) (oT : T < base) (oh : hb < base) (ox : xb < base) (ok : kb < base)
    (d1 : cb ≠ lb) (d2 : sb ≠ cb) (d3 : sb ≠ lb) (d4 : db ≠ cb) (d5 : db ≠ lb) (d6 : vb ≠ cb) (d7 : vb ≠ lb) (hB1 : B ≤ cb) (hB2 : B ≤ lb) (nT : T ≠ cb ∧ T ≠ lb) (nh : hb ≠ cb ∧ hb ≠ lb) (nx : xb ≠ cb ∧ xb ≠ lb) (nk : kb ≠ cb ∧ kb ≠ lb) (e1 : hb ≠ xb) (e2 : hb ≠ kb) (e3 : xb ≠ kb)
    (hc : Var w cb (.int .i64 0)) (hs : w.cell? ⟨sb, 0, none⟩ = some (.int .i64 stop)) (hl : Var w lb (.slice none 0 0)) (hd : w.cell? ⟨db, 0, none⟩ = some (.bool true)) (hv : w.cell? ⟨vb, 0, none⟩ = some (.int .i64 val))
    (cf : w.cell? ⟨T, 1, none⟩ = some (.func (.func 4) #[] #[.pointer (some ⟨hb, 0, none⟩), .pointer (some ⟨xb, 0, none⟩), .pointer (some ⟨kb, 0, none⟩)])) (h1 : Var w hb (.int .i64 0)) (h2 : Var w xb (.int .i64 0)) (h3 : Var w kb (.bool false)) :
    Calls Yba.prog 6 #[.pointer (some ⟨T, 0, none⟩), task cb sb lb db vb] w fun e w' =>
      e = .returned (.tuple #[]) ∧ ∃ w1, Tk (base + 1) cb lb stop (w.alloc (.cells #[.pointer (some ⟨T, 0, none⟩)] 24)) w1 ∧ Below B w w1 ∧ Var w1 hb (.int .i64 0) ∧ Var w1 xb (.int .i64 0) ∧ Var w1 kb (.bool false) ∧ w' = ((w1.setCell ⟨hb, 0, none⟩ (.int .i64 1)).setCell ⟨xb, 0, none⟩ (.int .i64 val)).setCell ⟨kb, 0, none⟩ (.bool true) := by
  have hmf := hmf
  have sz : (w.alloc (.cells #[.pointer (some ⟨T, 0, none⟩)] 24)).heap.size = base + 1 := by simp [hbase]
  have ne : ∀ b, b < base → (w.alloc (.cells #[.pointer (some ⟨T, 0, none⟩)] 24)).heap[b]? = w.heap[b]? := fun b h => Below.heap_alloc _ _ _ (by omega)
  have HT := hid (task_any B (base + 1) cb sb lb db vb stop true val (w.alloc (.cells #[.pointer (some ⟨T, 0, none⟩)] 24)) hst (by omega) (by omega) (by omega) (by omega) (by omega) (by omega) d1 d2 d3 d4 d5 d6 d7 hB1 hB2 (hc.keep (ne cb o1)) (cell_block hs (ne sb o2)) (hl.keep (ne lb o3)) (cell_block hd (ne db o4)) (cell_block hv (ne vb o5)))
  have HNE := hid ne
  have ct0 : (w.alloc (.cells #[.pointer (some ⟨T, 0, none⟩)] 24)).cell? ⟨base, 0, none⟩ = some (.pointer (some ⟨T, 0, none⟩)) := by rw [World.cell?_alloc_at _ _ _ _ hbase]; rfl
  have HAll := hid (And.intro ct0 (And.intro cf (And.intro h1 (And.intro h2 h3))))
  clear ne hc hs hl hd hv sz cf h1 h2 h3 ct0
  subst hbase
  simp only [task]
  go_enter_defers Yba.func6, Yba.ntmps6
  go_wp2_with (go_at_call 5; refine HT.out.mono ?_; rintro e w1 ⟨rfl, hT, hb1⟩)
  obtain ⟨ct0, cf, h1, h2, h3⟩ := HAll.out
  have keep : ∀ b, b < w.heap.size → b ≠ cb → b ≠ lb → w1.heap[b]? = w.heap[b]? := fun b h n1 n2 => (hT.same b (by omega) n1 n2).trans (HNE.out b h)
  have g1 := h1.keep (keep hb oh nh.1 nh.2)
  have g2 := h2.keep (keep xb ox nx.1 nx.2)
  have g3 := h3.keep (keep kb ok nk.1 nk.2)
  have hbw : Below B w w1 := ((Below.refl B w).alloc (by omega) _).trans hb1
  refine leaves_cons (f := 7) (args := #[.pointer (some ⟨w.heap.size, 0, none⟩)]) (by simp) (by simp [go_sem]) ?_
  refine (catch_panicking w.heap.size T hb xb kb val 0 false [] w1 (cell_block ct0 (hT.same w.heap.size (by omega) (by omega) (by omega))) (cell_block cf (keep T oT nT.1 nT.2)) g1 g2 g3 e1 e2 e3).mono ?_
  rintro e u' w2 ⟨rfl, rfl, rfl⟩
  exact ⟨_, results_none rfl _ _ _, rfl, w1, hT, hbw, g1, g2, g3, rfl⟩

set_option maxRecDepth 20000 in
set_option maxHeartbeats 1000000 in
theorem call_plain (B base cb sb lb db vb T hb xb kb stop : Nat) (val : Int) (w : World) (hst : stop ≤ 1024) (hbase : base = w.heap.size) (o1 : cb < base) (o2 : sb < base) (o3 : lb < base) (o4 : db < base) (o5 : vb < base) (oh : hb < base) (ox : xb < base) (ok : kb < base)
    (d1 : cb ≠ lb) (d2 : sb ≠ cb) (d3 : sb ≠ lb) (d4 : db ≠ cb) (d5 : db ≠ lb) (d6 : vb ≠ cb) (d7 : vb ≠ lb) (hB1 : B ≤ cb) (hB2 : B ≤ lb) (nh : hb ≠ cb ∧ hb ≠ lb) (nx : xb ≠ cb ∧ xb ≠ lb) (nk : kb ≠ cb ∧ kb ≠ lb)
    (hc : Var w cb (.int .i64 0)) (hs : w.cell? ⟨sb, 0, none⟩ = some (.int .i64 stop)) (hl : Var w lb (.slice none 0 0)) (hd : w.cell? ⟨db, 0, none⟩ = some (.bool false)) (hv : w.cell? ⟨vb, 0, none⟩ = some (.int .i64 val))
    (h1 : Var w hb (.int .i64 0)) (h2 : Var w xb (.int .i64 0)) (h3 : Var w kb (.bool false)) :
    Calls Yba.prog 6 #[.pointer (some ⟨T, 0, none⟩), task cb sb lb db vb] w fun e w' =>
      e = .returned (.tuple #[]) ∧ Tk (base + 1) cb lb stop (w.alloc (.cells #[.pointer (some ⟨T, 0, none⟩)] 24)) w' ∧ Below B w w' ∧ Var w' hb (.int .i64 0) ∧ Var w' xb (.int .i64 0) ∧ Var w' kb (.bool false) := by
  have hmf := hmf
  have sz : (w.alloc (.cells #[.pointer (some ⟨T, 0, none⟩)] 24)).heap.size = base + 1 := by simp [hbase]
  have ne : ∀ b, b < base → (w.alloc (.cells #[.pointer (some ⟨T, 0, none⟩)] 24)).heap[b]? = w.heap[b]? := fun b h => Below.heap_alloc _ _ _ (by omega)
  have HT := hid (task_any B (base + 1) cb sb lb db vb stop false val (w.alloc (.cells #[.pointer (some ⟨T, 0, none⟩)] 24)) hst (by omega) (by omega) (by omega) (by omega) (by omega) (by omega) d1 d2 d3 d4 d5 d6 d7 hB1 hB2 (hc.keep (ne cb o1)) (cell_block hs (ne sb o2)) (hl.keep (ne lb o3)) (cell_block hd (ne db o4)) (cell_block hv (ne vb o5)))
  have HNE := hid ne
  have HAll := hid (And.intro h1 (And.intro h2 h3))
  clear ne hc hs hl hd hv sz h1 h2 h3
  subst hbase
  simp only [task]
  go_enter_defers Yba.func6, Yba.ntmps6
  go_wp2_with (go_at_call 5; refine HT.out.mono ?_; rintro e w1 ⟨rfl, hT, hb1⟩)
  obtain ⟨h1, h2, h3⟩ := HAll.out
  have keep : ∀ b, b < w.heap.size → b ≠ cb → b ≠ lb → w1.heap[b]? = w.heap[b]? := fun b h n1 n2 => (hT.same b (by omega) n1 n2).trans (HNE.out b h)
  have g1 := h1.keep (keep hb oh nh.1 nh.2)
  have g2 := h2.keep (keep xb ox nx.1 nx.2)
  have g3 := h3.keep (keep kb ok nk.1 nk.2)
  have hbw : Below B w w1 := ((Below.refl B w).alloc (by omega) _).trans hb1
  refine leaves_cons (f := 7) (args := #[.pointer (some ⟨w.heap.size, 0, none⟩)]) (by simp) (by simp [go_sem]) ?_
  refine (catch_idle w.heap.size w1).mono ?_
  rintro e u' w2 ⟨rfl, rfl, rfl⟩
  exact ⟨_, results_none rfl _ _ _, rfl, hT, hbw, g1, g2, g3⟩

end Go.Proofs.Ybulkbyqu
