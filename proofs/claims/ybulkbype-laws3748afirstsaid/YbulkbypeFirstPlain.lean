/-
  For LawS3748AFirst: what the four heaps and the four lists of tasks look like in memory while they are filled, and what one round does to it. No code of the program in here.
-/
import Derived.WalkKit
import Derived.WalkSpells
import Derived.Deep.AppendLies
namespace Go.Proofs.Ybulkbype
open Go.RowKit

theorem hid {p : Prop} (h : p) : Hid p := h

abbrev ptr (t : Nat) : Value := .pointer (some ⟨t, 0, none⟩)
abbrev taskObj (r i : Nat) : Obj := .cells #[.pointer none, .pointer none, .bool true, .pointer none, .pointer none, .int .i64 i, .int .i64 r, .bool false] 35

/-- Rank r of the world ws, k tasks in it: h in block g, the list av, the tasks' blocks ts; w0: the world as this rank's filling began. -/
structure Inner (B A r : Nat) (w0 : World) (k g cap : Nat) (av : Value) (ts : List Nat) (ws : World) : Prop where
  len : ts.length = k
  own1 : ws.ownsRow (B + 3) 23 1 (.slice (some ⟨g, 0, none⟩) k cap) k (ts.map ptr)
  cA : ws.cell? ⟨A, r, none⟩ = some av
  own2 : ws.ownsRow (B + 3) 23 1 av k (ts.map ptr)
  dis : av.ownBlock ≠ some g
  new1 : w0.heap.size ≤ g
  new2 : ∀ g', av.ownBlock = some g' → w0.heap.size ≤ g'
  tasks : ∀ i t, ts[i]? = some t → w0.heap.size ≤ t ∧ ws.heap[t]? = some (taskObj r i)
  frame : ∀ b, b < w0.heap.size → b ≠ A → ws.heap[b]? = w0.heap[b]?
  other : ∀ o, o ≠ r → ws.cell? ⟨A, o, none⟩ = w0.cell? ⟨A, o, none⟩
  froz : ∀ o, ws.frozen? ⟨A, o, none⟩ = false
  below : Below B w0 ws

theorem lt_of_heap {w : World} {b : Nat} {o : Obj} (h : w.heap[b]? = some o) : b < w.heap.size := (Array.getElem?_eq_some_iff.1 h).1

theorem heap_alloc_lt (w : World) (o : Obj) (b : Nat) (h : b < w.heap.size) : (w.alloc o).heap[b]? = w.heap[b]? := Below.heap_alloc w o b h

theorem heap_alloc_eq (w : World) (o : Obj) : (w.alloc o).heap[w.heap.size]? = some o := by
  show (w.heap.push o)[w.heap.size]? = _
  simp

variable {B A r k g cap : Nat} {w0 ws w3 w5 : World} {av : Value} {ts : List Nat}

/-- Behind the first append: the list's own slice is as it was. -/
theorem Inner.mid (hA : A = B + 2) (hB : B + 3 ≤ w0.heap.size) (I : Inner B A r w0 k g cap av ts ws) {T X : Obj} (gr3 : ((ws.alloc T).alloc X).grownBy w3 (some g)) :
    w3.cell? ⟨A, r, none⟩ = some av ∧ w3.ownsRow (B + 3) 23 1 av k (ts.map ptr) ∧ (∀ o, w3.frozen? ⟨A, o, none⟩ = false) ∧ ws.heap.size + 2 ≤ w3.heap.size := by
  have hs := I.below.size
  have hn := I.new1
  have hb : ∀ b, b < ws.heap.size → b ≠ g → w3.heap[b]? = ws.heap[b]? := fun b hb hne => by
    rw [gr3.block b (by simp; omega) (by simpa using hne), heap_alloc_lt _ _ _ (by simp; omega), heap_alloc_lt _ _ _ hb]
  have hAb : w3.heap[A]? = ws.heap[A]? := hb A (by omega) (by omega)
  refine ⟨(World.cell?_of_block (a := ⟨A, r, none⟩) hAb).trans I.cA, ?_, fun o => (World.frozen?_of_block (a := ⟨A, o, none⟩) hAb).trans (I.froz o), by have := gr3.size; simp at this; omega⟩
  exact ((I.own2.alloc T).alloc X).kept gr3 (Or.inr I.dis)

/-- Behind the second append: the list's cell may be written. -/
theorem Inner.mid5 (hA : A = B + 2) (hB : B + 3 ≤ w0.heap.size) (I : Inner B A r w0 k g cap av ts ws) {Y : Obj} (m1 : w3.cell? ⟨A, r, none⟩ = some av) (m3 : ∀ o, w3.frozen? ⟨A, o, none⟩ = false) (m4 : ws.heap.size + 2 ≤ w3.heap.size) (gr5 : (w3.alloc Y).grownBy w5 av.ownBlock) :
    w5.cell? ⟨A, r, none⟩ = some av ∧ w5.frozen? ⟨A, r, none⟩ = false := by
  have hs := I.below.size
  have hAav : (some A : Option Nat) ≠ av.ownBlock := fun e => by have := I.own2.lt A e.symm; omega
  have h5 : w5.heap[A]? = w3.heap[A]? := by rw [gr5.block A (by simp; omega) hAav, heap_alloc_lt _ _ _ (by omega)]
  exact ⟨(World.cell?_of_block (a := ⟨A, r, none⟩) h5).trans m1, (World.frozen?_of_block (a := ⟨A, r, none⟩) h5).trans (m3 r)⟩

/-- ONE ROUND. -/
theorem Inner.step (hA : A = B + 2) (hB : B + 3 ≤ w0.heap.size) (I : Inner B A r w0 k g cap av ts ws) {X Y : Obj} {g1 cap1 g2 cap2 : Nat}
    (gr3 : ((ws.alloc (taskObj r k)).alloc X).grownBy w3 (some g)) (at3 : some g = some g1 ∨ g1 = ws.heap.size + 1 + 1)
    (o3 : w3.ownsRow (B + 3) 23 1 (.slice (some ⟨g1, 0, none⟩) (k + 1) cap1) (k + 1) (ts.map ptr ++ [ptr ws.heap.size]))
    (gr5 : (w3.alloc Y).grownBy w5 av.ownBlock) (at5 : av.ownBlock = some g2 ∨ g2 = w3.heap.size + 1)
    (o5 : w5.ownsRow (B + 3) 23 1 (.slice (some ⟨g2, 0, none⟩) (k + 1) cap2) (k + 1) (ts.map ptr ++ [ptr ws.heap.size])) :
    Inner B A r w0 (k + 1) g1 cap1 (.slice (some ⟨g2, 0, none⟩) (k + 1) cap2) (ts ++ [ws.heap.size]) (w5.setCell ⟨A, r, none⟩ (.slice (some ⟨g2, 0, none⟩) (k + 1) cap2)) := by
  obtain ⟨hcA, hown2, hfz, hsz3⟩ := I.mid hA hB gr3
  have hs := I.below.size
  have hn := I.new1
  have hgl : g < ws.heap.size := (I.own1.lt g rfl).2
  have hal : ∀ g', av.ownBlock = some g' → B + 3 ≤ g' ∧ g' < ws.heap.size := I.own2.lt
  have hg1 : g1 < w3.heap.size := (o3.lt g1 rfl).2
  have hs5 : w3.heap.size + 1 ≤ w5.heap.size := by have := gr5.size; simpa using this
  have hb3 : ∀ b, b < ws.heap.size → b ≠ g → w3.heap[b]? = ws.heap[b]? := fun b hb hne => by
    rw [gr3.block b (by simp; omega) (by simpa using hne), heap_alloc_lt _ _ _ (by simp; omega), heap_alloc_lt _ _ _ hb]
  have hb5 : ∀ b, b < w3.heap.size → some b ≠ av.ownBlock → w5.heap[b]? = w3.heap[b]? := fun b hb hne => by
    rw [gr5.block b (by simp; omega) hne, heap_alloc_lt _ _ _ hb]
  have hne1 : (some g1 : Option Nat) ≠ av.ownBlock := by
    intro e
    rcases at3 with h | h
    · exact I.dis (by rw [← e, ← h])
    · have := hal g1 e.symm; omega
  have hAav : (some A : Option Nat) ≠ av.ownBlock := fun e => by have := hal A e.symm; omega
  have hA5 : w5.heap[A]? = ws.heap[A]? := by rw [hb5 A (by omega) hAav, hb3 A (by omega) (by omega)]
  have hTg : w3.heap[ws.heap.size]? = some (taskObj r k) := by
    rw [gr3.block ws.heap.size (by simp; omega) (by simp; omega), heap_alloc_lt _ _ _ (by simp), heap_alloc_eq]
  -- a block that is neither A nor one of the two rows
  have hset : ∀ b v, b ≠ A → (w5.setCell ⟨A, r, none⟩ v).heap[b]? = w5.heap[b]? := fun b v h => Below.heap_setCell _ _ _ _ h
  refine ⟨by simp [I.len], ?_, World.cell?_setCell_same _ _ _ ((World.cell?_of_block (a := ⟨A, r, none⟩) hA5).trans I.cA), ?_, ?_, ?_, ?_, ?_, ?_, ?_, ?_, ?_⟩
  · rw [List.map_append, List.map_cons, List.map_nil]
    exact ownsRow_setCell_below ((o3.alloc Y).kept gr5 (Or.inr hne1)) (by simp; omega) _
  · rw [List.map_append, List.map_cons, List.map_nil]
    exact ownsRow_setCell_below o5 (by simp; omega) _
  · intro e
    have e' : g2 = g1 := by simpa [Value.ownBlock] using e
    rcases at5 with h | h
    · exact hne1 (by rw [h, e'])
    · omega
  · rcases at3 with h | h
    · have : g = g1 := by simpa using h
      omega
    · omega
  · intro g' e
    have e' : g2 = g' := by simpa [Value.ownBlock] using e
    rcases at5 with h | h
    · exact I.new2 g' (by rw [h, e'])
    · omega
  · intro i t ht
    rw [List.getElem?_append] at ht
    split at ht
    · obtain ⟨h0, h1⟩ := I.tasks i t ht
      have hlt := lt_of_heap h1
      have n1 : t ≠ g := by
        intro e
        rcases I.own1.2 with ⟨hx, _⟩ | ⟨g', cap', cur, hx, _, hg', _⟩
        · simp at hx
        · simp only [Value.slice.injEq, Option.some.injEq, Addr.mk.injEq, and_true, true_and] at hx
          rw [← hx.1, ← e, h1] at hg'
          simp at hg'
      have n2 : (some t : Option Nat) ≠ av.ownBlock := by
        intro e
        rcases I.own2.2 with ⟨hx, _⟩ | ⟨g', cap', cur, hx, _, hg', _⟩
        · rw [hx] at e; simp [Value.ownBlock] at e
        · rw [hx] at e
          have : t = g' := by simpa [Value.ownBlock] using e
          rw [← this, h1] at hg'
          simp at hg'
      rw [hset t _ (by omega), hb5 t (by omega) n2, hb3 t hlt n1]
      exact ⟨h0, h1⟩
    · have hi : i = ts.length := by
        rcases Nat.lt_or_ge (i - ts.length) 1 with h | h
        · omega
        · rw [List.getElem?_eq_none (by simpa using h)] at ht; cases ht
      subst hi
      simp at ht
      subst ht
      refine ⟨hs, ?_⟩
      rw [hset _ _ (by omega), hb5 _ (by omega) (fun e => by have := hal _ e.symm; omega), hTg, I.len]
  · intro b hb hne
    rw [hset b _ hne, hb5 b (by omega) (fun e => by have := I.new2 b e.symm; omega), hb3 b (by omega) (by omega)]
    exact I.frame b hb hne
  · intro o ho
    rw [World.cell?_setCell_other _ _ _ _ (by simp <;> omega), World.cell?_of_block (a := ⟨A, o, none⟩) hA5]
    exact I.other o ho
  · intro o
    rw [World.frozen?_setCell, World.frozen?_of_block (a := ⟨A, o, none⟩) hA5]
    exact I.froz o
  · have hgk : ∀ k, some g = some k → B ≤ k := fun k hk => by
      have : g = k := by simpa using hk
      omega
    have b3 : Below B ws w3 := (((Below.refl B ws).alloc (by omega) _).alloc (by simp; omega) _).grown gr3 (by simp; omega) hgk
    have b5 : Below B ws w5 := (b3.alloc (by omega) Y).grown gr5 (by simp; omega) (fun k hk => by have := hal k hk; omega)
    exact I.below.trans (b5.setCell (by simp; omega) _)

/-- The four ranks of the world wr, the first r of them filled. -/
structure Outer (B : Nat) (cs : Nat → Nat) (r : Nat) (wr : World) (hv av : Nat → Value) (ts : Nat → List Nat) : Prop where
  cB : ∀ j, j < 4 → wr.cell? ⟨B, j, none⟩ = some (.int .u8 (cs j))
  q0 : ∀ j, j < 4 → wr.cell? ⟨B + 1, j * 3, none⟩ = some (.pointer none)
  q1 : ∀ j, j < 4 → wr.cell? ⟨B + 1, j * 3 + 1, none⟩ = some (.pointer none)
  q2 : ∀ j, j < 4 → wr.cell? ⟨B + 1, j * 3 + 2, none⟩ = some (hv j)
  a : ∀ j, j < 4 → wr.cell? ⟨B + 1 + 1, j, none⟩ = some (av j)
  fq : ∀ o, wr.frozen? ⟨B + 1, o, none⟩ = false
  fa : ∀ o, wr.frozen? ⟨B + 1 + 1, o, none⟩ = false
  len : ∀ j, j < r → (ts j).length = cs j
  own1 : ∀ j, j < r → ∃ g cap, hv j = .slice (some ⟨g, 0, none⟩) (cs j) cap
  own1' : ∀ j, j < r → wr.ownsRow (B + 3) 23 1 (hv j) (cs j) ((ts j).map ptr)
  own2 : ∀ j, j < r → wr.ownsRow (B + 3) 23 1 (av j) (cs j) ((ts j).map ptr)
  tasks : ∀ j, j < r → ∀ i t, (ts j)[i]? = some t → B + 3 ≤ t ∧ wr.heap[t]? = some (taskObj j i)
  rest : ∀ j, r ≤ j → av j = .slice none 0 0
  big : B + 3 ≤ wr.heap.size

theorem ownsRow_same {base n : Nat} {v : Value} {xs : List Value} {w w' : World} (h : w.ownsRow base 23 1 v n xs) (hk : ∀ b, base ≤ b → b < w.heap.size → w'.heap[b]? = w.heap[b]?) : w'.ownsRow base 23 1 v n xs := by
  refine ⟨h.1, ?_⟩
  rcases h.2 with hn | ⟨g, cap, cur, rfl, hb, hgg, rest⟩
  · exact .inl hn
  · refine .inr ⟨g, cap, cur, rfl, hb, ?_, rest⟩
    rw [hk g hb (lt_of_heap hgg)]
    exact hgg

/-- As a rank's filling begins. -/
theorem Outer.begin {cs : Nat → Nat} {hv avs : Nat → Value} {tss : Nat → List Nat} {wr : World} (O : Outer B cs r wr hv avs tss) (hr : r < 4) (o : Array Value) (ho : o.size = cs r) (hm : cs r ≤ maxLen) :
    Inner B (B + 1 + 1) r wr 0 wr.heap.size (cs r) (.slice none 0 0) [] (wr.alloc (.cells o 23)) := by
  have hb := O.big
  refine ⟨rfl, World.ownsRow_made _ _ _ (by omega) hm (by simpa using ho), ?_, World.ownsRow_nil _ _ _ _, by simp [Value.ownBlock], Nat.le_refl _, by simp [Value.ownBlock], by simp, ?_, ?_, ?_, (Below.refl _ _).alloc (by omega) _⟩
  · rw [World.cell?_alloc_past _ _ _ (by omega), O.a r hr, O.rest r (Nat.le_refl _)]
  · intro b hb' _
    exact heap_alloc_lt _ _ _ hb'
  · intro o' _
    exact World.cell?_alloc_past _ _ _ (by omega)
  · intro o'
    rw [World.frozen?_alloc_past _ _ _ (by omega)]
    exact O.fa o'

theorem Outer.atQ {cs : Nat → Nat} {hv avs : Nat → Value} {tss : Nat → List Nat} {wr : World} (O : Outer B cs r wr hv avs tss) (hr : r < 4) (I : Inner B (B + 1 + 1) r wr k g cap av ts ws) :
    ws.cell? ⟨B + 1, r * 3 + 2, none⟩ = some (hv r) ∧ ws.frozen? ⟨B + 1, r * 3 + 2, none⟩ = false := by
  have hb := O.big
  have hQ : ws.heap[B + 1]? = wr.heap[B + 1]? := I.frame _ (by omega) (by omega)
  exact ⟨(World.cell?_of_block (a := ⟨B + 1, r * 3 + 2, none⟩) hQ).trans (O.q2 r hr), (World.frozen?_of_block (a := ⟨B + 1, r * 3 + 2, none⟩) hQ).trans (O.fq _)⟩

/-- The start: nothing filled. -/
theorem Outer.start (w : World) (cs : Nat → Nat) :
    Outer w.heap.size cs 0 (((w.alloc (.cells #[.int .u8 (cs 0), .int .u8 (cs 1), .int .u8 (cs 2), .int .u8 (cs 3)] 22)).alloc (.cells #[.pointer none, .pointer none, .slice none 0 0, .pointer none, .pointer none, .slice none 0 0, .pointer none, .pointer none, .slice none 0 0, .pointer none, .pointer none, .slice none 0 0] 30)).alloc (.cells #[.slice none 0 0, .slice none 0 0, .slice none 0 0, .slice none 0 0] 31)) (fun _ => .slice none 0 0) (fun _ => .slice none 0 0) (fun _ => []) := by
  refine ⟨?_, ?_, ?_, ?_, ?_, ?_, ?_, by omega, by omega, by omega, by omega, by omega, fun _ _ => rfl, by simp⟩
  · intro j hj
    rw [World.cell?_alloc_past _ _ _ (by simp; omega), World.cell?_alloc_past _ _ _ (by simp), World.cell?_alloc_at _ _ _ _ rfl]
    match j, hj with
    | 0, _ => rfl
    | 1, _ => rfl
    | 2, _ => rfl
    | 3, _ => rfl
  · intro j hj
    rw [World.cell?_alloc_past _ _ _ (by simp), World.cell?_alloc_at _ _ _ _ (by simp)]
    match j, hj with
    | 0, _ => rfl
    | 1, _ => rfl
    | 2, _ => rfl
    | 3, _ => rfl
  · intro j hj
    rw [World.cell?_alloc_past _ _ _ (by simp), World.cell?_alloc_at _ _ _ _ (by simp)]
    match j, hj with
    | 0, _ => rfl
    | 1, _ => rfl
    | 2, _ => rfl
    | 3, _ => rfl
  · intro j hj
    rw [World.cell?_alloc_past _ _ _ (by simp), World.cell?_alloc_at _ _ _ _ (by simp)]
    match j, hj with
    | 0, _ => rfl
    | 1, _ => rfl
    | 2, _ => rfl
    | 3, _ => rfl
  · intro j hj
    rw [World.cell?_alloc_at _ _ _ _ (by simp)]
    match j, hj with
    | 0, _ => rfl
    | 1, _ => rfl
    | 2, _ => rfl
    | 3, _ => rfl
  · intro o
    rw [World.frozen?_alloc_past _ _ _ (by simp), World.frozen?_alloc_at _ _ _ _ (by simp)]
  · intro o
    rw [World.frozen?_alloc_at _ _ _ _ (by simp)]

/-- As a rank's filling ends: its heap is stored into the queue. -/
theorem Outer.next {cs : Nat → Nat} {hv avs : Nat → Value} {tss : Nat → List Nat} {wr : World} (O : Outer B cs r wr hv avs tss) (hr : r < 4) (I : Inner B (B + 1 + 1) r wr (cs r) g cap av ts ws) :
    Outer B cs (r + 1) (ws.setCell ⟨B + 1, r * 3 + 2, none⟩ (.slice (some ⟨g, 0, none⟩) (cs r) cap)) (fun j => if j = r then .slice (some ⟨g, 0, none⟩) (cs r) cap else hv j) (fun j => if j = r then av else avs j) (fun j => if j = r then ts else tss j) := by
  have hb := O.big
  have hs := I.below.size
  obtain ⟨V, hV⟩ : ∃ V : Value, V = .slice (some ⟨g, 0, none⟩) (cs r) cap := ⟨_, rfl⟩
  have hset : ∀ b, b ≠ B + 1 → (ws.setCell ⟨B + 1, r * 3 + 2, none⟩ V).heap[b]? = ws.heap[b]? := fun b h => Below.heap_setCell _ _ _ _ h
  have hQ : ws.heap[B + 1]? = wr.heap[B + 1]? := I.frame _ (by omega) (by omega)
  have hQc : ∀ o, o ≠ r * 3 + 2 → (ws.setCell ⟨B + 1, r * 3 + 2, none⟩ V).cell? ⟨B + 1, o, none⟩ = wr.cell? ⟨B + 1, o, none⟩ := fun o ho => by
    rw [World.cell?_setCell_other _ _ _ _ (by simp <;> omega)]
    exact World.cell?_of_block (a := ⟨B + 1, o, none⟩) hQ
  have hfar : ∀ b, B + 3 ≤ b → b < wr.heap.size → (ws.setCell ⟨B + 1, r * 3 + 2, none⟩ V).heap[b]? = wr.heap[b]? := fun b h1 h2 => by
    rw [hset b (by omega)]
    exact I.frame b h2 (by omega)
  rw [← hV]
  refine ⟨?_, ?_, ?_, ?_, ?_, ?_, ?_, ?_, ?_, ?_, ?_, ?_, ?_, ?_⟩
  · intro j hj
    rw [World.cell?_of_block (a := ⟨B, j, none⟩) (hset B (by omega)), World.cell?_of_block (a := ⟨B, j, none⟩) (I.frame B (by omega) (by omega))]
    exact O.cB j hj
  · intro j hj
    rw [hQc _ (by omega)]
    exact O.q0 j hj
  · intro j hj
    rw [hQc _ (by omega)]
    exact O.q1 j hj
  · intro j hj
    by_cases h : j = r
    · subst h
      rw [if_pos rfl]
      exact World.cell?_setCell_same _ _ _ ((World.cell?_of_block (a := ⟨B + 1, j * 3 + 2, none⟩) hQ).trans (O.q2 j hj))
    · rw [if_neg h, hQc _ (by omega)]
      exact O.q2 j hj
  · intro j hj
    rw [World.cell?_of_block (a := ⟨B + 1 + 1, j, none⟩) (hset _ (by simp))]
    by_cases h : j = r
    · subst h
      rw [if_pos rfl]
      exact I.cA
    · rw [if_neg h, I.other j h]
      exact O.a j hj
  · intro o
    rw [World.frozen?_setCell, World.frozen?_of_block (a := ⟨B + 1, o, none⟩) hQ]
    exact O.fq o
  · intro o
    rw [World.frozen?_setCell]
    exact I.froz o
  · intro j hj
    by_cases h : j = r
    · subst h
      rw [if_pos rfl]
      exact I.len
    · rw [if_neg h]
      exact O.len j (by omega)
  · intro j hj
    by_cases h : j = r
    · subst h
      rw [if_pos rfl]
      exact ⟨g, cap, hV⟩
    · rw [if_neg h]
      exact O.own1 j (by omega)
  · intro j hj
    by_cases h : j = r
    · subst h
      rw [if_pos rfl, if_pos rfl, hV]
      exact ownsRow_setCell_below I.own1 (by simp) _
    · rw [if_neg h, if_neg h]
      exact ownsRow_same (O.own1' j (by omega)) hfar
  · intro j hj
    by_cases h : j = r
    · subst h
      rw [if_pos rfl, if_pos rfl]
      exact ownsRow_setCell_below I.own2 (by simp) _
    · rw [if_neg h, if_neg h]
      exact ownsRow_same (O.own2 j (by omega)) hfar
  · intro j hj i t ht
    by_cases h : j = r
    · subst h
      rw [if_pos rfl] at ht
      obtain ⟨h1, h2⟩ := I.tasks i t ht
      exact ⟨by omega, by rw [hset t (by omega)]; exact h2⟩
    · rw [if_neg h] at ht
      obtain ⟨h1, h2⟩ := O.tasks j (by omega) i t ht
      exact ⟨h1, by rw [hfar t h1 (lt_of_heap h2)]; exact h2⟩
  · intro j hj
    rw [if_neg (by omega)]
    exact O.rest j (by omega)
  · simp
    omega

def sAddr : Value → Option Addr
  | .slice a _ _ => a
  | _ => none
def sCap : Value → Nat
  | .slice _ _ c => c
  | _ => 0

/-- All four ranks filled, said of cells alone. -/
structure Fin4 (B : Nat) (cs : Nat → Nat) (wr : World) (ho ao : Nat → Option Addr) (hc ac : Nat → Nat) (T : Nat → Nat → Nat) : Prop where
  cB : ∀ j, j < 4 → wr.cell? ⟨B, j, none⟩ = some (.int .u8 (cs j))
  q0 : ∀ j, j < 4 → wr.cell? ⟨B + 1, j * 3, none⟩ = some (.pointer none)
  q1 : ∀ j, j < 4 → wr.cell? ⟨B + 1, j * 3 + 1, none⟩ = some (.pointer none)
  q2 : ∀ j, j < 4 → wr.cell? ⟨B + 1, j * 3 + 2, none⟩ = some (.slice (ho j) (cs j) (hc j))
  a : ∀ j, j < 4 → wr.cell? ⟨B + 1 + 1, j, none⟩ = some (.slice (ao j) (cs j) (ac j))
  h : ∀ j, j < 4 → ∀ i, i < cs j → ∃ g g', ho j = some ⟨g, 0, none⟩ ∧ ao j = some ⟨g', 0, none⟩ ∧ wr.cell? ⟨g, i, none⟩ = some (ptr (T j i)) ∧ wr.cell? ⟨g', i, none⟩ = some (ptr (T j i)) ∧
    wr.cell? ⟨T j i, 2, none⟩ = some (.bool true) ∧ wr.cell? ⟨T j i, 5, none⟩ = some (.int .i64 i) ∧ wr.cell? ⟨T j i, 6, none⟩ = some (.int .i64 j)

theorem owned_form {w : World} {base n : Nat} {v : Value} {xs : List Value} (h : w.ownsRow base 23 1 v n xs) : v = .slice (sAddr v) n (sCap v) := by
  rcases h.2 with ⟨rfl, rfl⟩ | ⟨g, cap, cur, rfl, _⟩ <;> rfl

theorem owned_cell {w : World} {base n : Nat} {v : Value} {ts : List Nat} (h : w.ownsRow base 23 1 v n (ts.map ptr)) {i t : Nat} (hi : ts[i]? = some t) : ∃ g, sAddr v = some ⟨g, 0, none⟩ ∧ w.cell? ⟨g, i, none⟩ = some (ptr t) := by
  have hl := h.1
  have hlt : i < ts.length := (List.getElem?_eq_some_iff.1 hi).1
  rcases h.2 with ⟨rfl, h0⟩ | ⟨g, cap, cur, hv, _⟩
  · simp at hl; omega
  · subst hv
    refine ⟨g, rfl, ?_⟩
    rw [World.ownsRow.cellAt h i (by simp at hl; omega)]
    simp [hi]

theorem cell_of_obj {w : World} {b o : Nat} {c : Array Value} {t : TypeId} (h : w.heap[b]? = some (.cells c t)) : w.cell? ⟨b, o, none⟩ = c[o]? := cell_of_row w b o c t (0, 0) h

theorem Outer.fin {cs : Nat → Nat} {hv avs : Nat → Value} {tss : Nat → List Nat} {wr : World} (O : Outer B cs 4 wr hv avs tss) : Fin4 B cs wr (fun j => sAddr (hv j)) (fun j => sAddr (avs j)) (fun j => sCap (hv j)) (fun j => sCap (avs j)) (fun j i => (tss j).getD i 0) := by
  refine ⟨O.cB, O.q0, O.q1, ?_, ?_, ?_⟩
  · intro j hj
    rw [← owned_form (O.own1' j hj)]
    exact O.q2 j hj
  · intro j hj
    rw [← owned_form (O.own2 j hj)]
    exact O.a j hj
  · intro j hj i hi
    have hl := O.len j hj
    have ht : (tss j)[i]? = some ((tss j).getD i 0) := by
      rw [List.getD_eq_getElem?_getD, List.getElem?_eq_getElem (by omega)]
      rfl
    obtain ⟨g, e1, e2⟩ := owned_cell (O.own1' j hj) ht
    obtain ⟨g', e3, e4⟩ := owned_cell (O.own2 j hj) ht
    obtain ⟨_, e5⟩ := O.tasks j hj i _ ht
    exact ⟨g, g', e1, e3, e2, e4, by rw [cell_of_obj e5]; rfl, by rw [cell_of_obj e5]; rfl, by rw [cell_of_obj e5]; rfl⟩

theorem Fin4.same {cs : Nat → Nat} {ho ao : Nat → Option Addr} {hc ac : Nat → Nat} {T : Nat → Nat → Nat} {w w' : World} (F : Fin4 B cs w ho ao hc ac T) (h : ∀ a, w'.cell? a = w.cell? a) : Fin4 B cs w' ho ao hc ac T := by
  refine ⟨fun j hj => ?_, fun j hj => ?_, fun j hj => ?_, fun j hj => ?_, fun j hj => ?_, fun j hj i hi => ?_⟩
  · rw [h]; exact F.cB j hj
  · rw [h]; exact F.q0 j hj
  · rw [h]; exact F.q1 j hj
  · rw [h]; exact F.q2 j hj
  · rw [h]; exact F.a j hj
  · obtain ⟨g, g', h1, h2, h3⟩ := F.h j hj i hi
    refine ⟨g, g', h1, h2, ?_⟩
    simp only [h]
    exact h3

end Go.Proofs.Ybulkbype
