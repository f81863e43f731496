/-
  For LawS3748BFinds: the journal's state while it is filled, and what one job does to it.
-/
import Derived.Test.YbulkbypeFmtFindsTask
namespace Go.Proofs.YbulkbypeFmt
open Go.RowKit Go.Extern.Stop Go.Stop Go.Extern Go.Maps

def sumN (f : Nat → Nat) : Nat → Nat
  | 0 => 0
  | k + 1 => sumN f k + f k
theorem sumN_bd (f : Nat → Nat) (m : Nat) (h : ∀ j, f j ≤ m) (k : Nat) : sumN f k ≤ k * m := by
  induction k with
  | zero => simp [sumN]
  | succ k ih => have := h k; simp only [sumN]; rw [Nat.succ_mul]; omega
theorem le_sumN (f : Nat → Nat) {j k : Nat} (h : j < k) : f j ≤ sumN f k := by
  induction k with
  | zero => omega
  | succ k ih =>
    simp only [sumN]
    by_cases e : j = k
    · subst e; omega
    · have := ih (by omega); omega

/-- What the walk is told of the jobs. -/
structure Jobs (w : World) (a0 : Option Addr) (len : Nat) (ID : Nat → Int) (ta : Nat → Option Addr) (tl tc : Nat → Nat) (S : Nat → Nat → ByteArray) : Prop where
  row : ∀ j, j < len → ∃ b off, a0 = some ⟨b, off, none⟩ ∧ b < w.heap.size ∧ w.cell? ⟨b, off + j * 2, none⟩ = some (.int .u64 (ID j)) ∧ w.cell? ⟨b, off + j * 2 + 1, none⟩ = some (.slice (ta j) (tl j) (tc j))
  wf : ∀ j, (Lit.int .u64 (ID j)).wf = true
  tlb : ∀ j, tl j ≤ 1000000000000000
  tgt : ∀ j, j < len → (ta j = none ∧ tl j = 0 ∧ tc j = 0) ∨ ∃ ad, ta j = some ad ∧ (∀ i, i < tl j → w.cell? (ad.add i) = some (.string (S j i))) ∧ ∀ i, i < tl j → ∃ tb to', ad = ⟨tb, to', none⟩

theorem info39 : (Ybaf.prog.info? 39).map (fun i => (i.zero, i.size, i.bytes)) = some (some (.pointer none), 1, 8) := by kernel_rfl
theorem info38 : (Ybaf.prog.info? 38).map (fun i => (i.zero, i.size, i.bytes)) = some (some (.agg #[.int .i64 0, .int .i64 0, .bool false]), 3, 24) := by kernel_rfl
theorem make34 (n : Nat) (hn : n ≤ 512) (w : World) : (Instr.makeSlice 34 (.int .i64 (n : Int)) (.int .i64 (n : Int))).run Ybaf.prog w = .ok (.slice (some ⟨w.heap.size, 0, none⟩) n n) (w.alloc (.cells (madeCells #[.pointer none] n) 39)) := by
  obtain ⟨i0, hi, hz0, hz1, hz2⟩ := info_parts info39
  have hmk := run_make (P := Ybaf.prog) w 34 39 i0 _ Ybaf.underlying34 hi hz0 .i64 .i64 n n (by omega) (by omega) (by rw [hz2]; omega) (by omega)
  simp only [hz1, Int.toNat_natCast, Nat.mul_one] at hmk
  exact hmk
theorem make36 (n : Nat) (hn : n ≤ 8192) (w : World) : (Instr.makeSlice 36 (.int .i64 (n : Int)) (.int .i64 (n : Int))).run Ybaf.prog w = .ok (.slice (some ⟨w.heap.size, 0, none⟩) n n) (w.alloc (.cells (madeCells #[.int .i64 0, .int .i64 0, .bool false] (n * 3)) 38)) := by
  obtain ⟨i0, hi, hz0, hz1, hz2⟩ := info_parts info38
  have hmk := run_make (P := Ybaf.prog) w 36 38 i0 _ Ybaf.underlying36 hi hz0 .i64 .i64 n n (by omega) (by omega) (by rw [hz2]; omega) (by omega)
  simp only [hz1, Int.toNat_natCast] at hmk
  exact hmk

/-- The journal's state while it is filled: k jobs in it. -/
structure Build (st mb eb lo len : Nat) (ID : Nat → Int) (tl : Nat → Nat) (S : Nat → Nat → ByteArray) (k : Nat) (wr : World) (Ef : Nat → Nat) (D : DataW Unit) : Prop where
  cst : wr.cell? ⟨st, 1, none⟩ = some (.map (some mb))
  own : wr.ownsMap Ybaf.prog 31 ptrElem mb k D
  mp : MapIs ID Ef D k
  ents : ∀ j, j < k → wr.cell? ⟨eb, j, none⟩ = some (.pointer (some ⟨Ef j, 0, none⟩))
  room : ∀ j, j < len → ∃ v, wr.cell? ⟨eb, j, none⟩ = some v
  fz : ∀ o, wr.frozen? ⟨eb, o, none⟩ = false
  ok : ∀ j, j < k → ∃ ga gc tk, EntOk wr lo (Ef j) (tl j) (S j) ga gc tk
  big : lo ≤ wr.heap.size

theorem Build.start (w : World) (len : Nat) (ID : Nat → Int) (tl : Nat → Nat) (S : Nat → Nat → ByteArray) {v : Value} :
    Build (w.heap.size + 1 + 1 + 1) w.heap.size (w.heap.size + 1 + 1 + 1 + 1) (w.heap.size + 5) len ID tl S 0 (((((w.alloc (.map #[] 0)).alloc (.map #[] 0)).alloc (.map #[] 0)).alloc (.cells #[v, .map (some w.heap.size), .map (some (w.heap.size + 1)), .map (some (w.heap.size + 1 + 1))] 33)).alloc (.cells (madeCells #[.pointer none] len) 39)) (fun _ => 0) (.map []) := by
  refine ⟨?_, ?_, MapIs.start _ _, fun j h => by omega, fun j hj => ?_, fun o => ?_, fun j h => by omega, by simp⟩
  · rw [World.cell?_alloc_past _ _ _ (by simp), World.cell?_alloc_at _ _ _ _ (by simp)]
    rfl
  · exact ((((World.ownsMap_made w Ybaf.prog 31 ptrElem).alloc _).alloc _).alloc _).alloc _
  · rw [World.cell?_alloc_at _ _ _ _ (by simp), madeAt _ _ _ hj]
    exact ⟨_, rfl⟩
  · rw [World.frozen?_alloc_at _ _ _ _ (by simp)]

theorem clone_any (ta : Option Addr) (n c : Nat) (S : Nat → ByteArray) (w : World) (hn : n ≤ 8192) (h : (ta = none ∧ n = 0 ∧ c = 0) ∨ ∃ ad, ta = some ad ∧ ∀ i, i < n → w.cell? (ad.add i) = some (.string (S i))) :
    Calls Ybaf.prog 4 #[.slice ta n c] w fun e w' => ∃ ga gc, e = .returned (.slice ga n gc) ∧ Below w.heap.size w w' ∧ ∀ i, i < n → ∃ cb, ga = some ⟨cb, 0, none⟩ ∧ w.heap.size ≤ cb ∧ w'.cell? ⟨cb, i, none⟩ = some (.string (S i)) := by
  rcases h with ⟨rfl, rfl, rfl⟩ | ⟨ad, rfl, hc⟩
  · exact (clone_nil w).mono fun e w' ⟨he, hw⟩ => ⟨none, 0, he, by rw [hw]; exact Below.refl _ _, fun i hi => by omega⟩
  · exact clone_some ad n c S w hn hc

section
variable {st mb eb lo len : Nat} {ID : Nat → Int} {tl : Nat → Nat} {S : Nat → Nat → ByteArray} {k : Nat} {wr ws : World} {Ef : Nat → Nat} {D : DataW Unit}

/-- What the walk reads in a world in which nothing old has turned. -/
theorem Build.mid (Bd : Build st mb eb lo len ID tl S k wr Ef D) (h3 : st < lo) (h4 : mb < lo) (h5 : eb < lo) (hk : k < len) (hf : ∀ b, b < wr.heap.size → ws.heap[b]? = wr.heap[b]?) :
    ws.cell? ⟨st, 1, none⟩ = some (.map (some mb)) ∧ (∃ v, ws.cell? ⟨eb, k, none⟩ = some v) ∧ ws.frozen? ⟨eb, k, none⟩ = false ∧ ws.ownsMap Ybaf.prog 31 ptrElem mb k D := by
  have hb := Bd.big
  obtain ⟨v, hv⟩ := Bd.room k hk
  refine ⟨(World.cell?_of_block (a := ⟨st, 1, none⟩) (hf st (by omega))).trans Bd.cst, ⟨v, (World.cell?_of_block (a := ⟨eb, k, none⟩) (hf eb (by omega))).trans hv⟩, (World.frozen?_of_block (a := ⟨eb, k, none⟩) (hf eb (by omega))).trans (Bd.fz k), ?_⟩
  obtain ⟨es, clock, h1, h2⟩ := Bd.own
  exact ⟨es, clock, (hf mb (by omega)).trans h1, h2⟩

/-- ONE JOB MORE. -/
theorem Build.step (Bd : Build st mb eb lo len ID tl S k wr Ef D) (h1 : st ≠ eb) (h2 : mb ≠ eb) (h2' : st ≠ mb) (h3 : st < lo) (h4 : mb < lo) (h5 : eb < lo) (hk : k < len) (hf : ∀ b, b < wr.heap.size → ws.heap[b]? = wr.heap[b]?) (hsz : wr.heap.size ≤ ws.heap.size)
    {cs : Array Value} {ga : Option Addr} {gc tk : Nat} (he : EntOk (ws.alloc (.cells cs 48)) lo ws.heap.size (tl k) (S k) ga gc tk) {w6 : World}
    (hg : ((ws.alloc (.cells cs 48)).setCell ⟨eb, k, none⟩ (.pointer (some ⟨ws.heap.size, 0, none⟩))).grownBy w6 (some mb)) {D' : DataW Unit}
    (hown : w6.ownsMap Ybaf.prog 31 ptrElem mb (k + 1) D') (hD : D' = D.put (.int .u64 (ID k)) (.lit (.int .u64 ws.heap.size))) :
    Build st mb eb lo len ID tl S (k + 1) w6 (fun j => if j = k then ws.heap.size else Ef j) D' := by
  subst hD
  have hb := Bd.big
  have s6 : ws.heap.size + 1 ≤ w6.heap.size := by have := hg.size; simpa using this
  have hold : ∀ b, b < ws.heap.size + 1 → b ≠ mb → b ≠ eb → w6.heap[b]? = (ws.alloc (.cells cs 48)).heap[b]? := fun b h a1 a2 => by
    rw [hg.block b (by simpa using h) (by simpa using a1), Below.heap_setCell _ _ _ _ a2]
  have hold2 : ∀ b, b < wr.heap.size → b ≠ mb → b ≠ eb → w6.heap[b]? = wr.heap[b]? := fun b h a1 a2 => by
    rw [hold b (by omega) a1 a2, Below.heap_alloc _ _ _ (by omega), hf b h]
  have heb : w6.heap[eb]? = ((ws.alloc (.cells cs 48)).setCell ⟨eb, k, none⟩ (.pointer (some ⟨ws.heap.size, 0, none⟩))).heap[eb]? := hg.block eb (by simp; omega) (by simpa using fun e => h2 e.symm)
  have hwe : (ws.alloc (.cells cs 48)).heap[eb]? = wr.heap[eb]? := by rw [Below.heap_alloc _ _ _ (by omega), hf eb (by omega)]
  have hfar : ∀ b, lo ≤ b → b < wr.heap.size → w6.heap[b]? = wr.heap[b]? := fun b a1 a2 => hold2 b a2 (by omega) (by omega)
  refine ⟨(World.cell?_of_block (a := ⟨st, 1, none⟩) (hold2 st (by omega) h2' h1)).trans Bd.cst, hown, Bd.mp.put _, fun j hj => ?_, fun j hj => ?_, fun o => ?_, fun j hj => ?_, by omega⟩
  · rw [World.cell?_of_block (a := ⟨eb, j, none⟩) heb]
    by_cases e : j = k
    · subst e
      obtain ⟨v, hv⟩ := Bd.room j hk
      rw [if_pos rfl]
      exact World.cell?_setCell_same _ _ _ ((World.cell?_of_block (a := ⟨eb, j, none⟩) hwe).trans hv)
    · rw [if_neg e, World.cell?_setCell_other _ _ _ _ (by simp <;> omega), World.cell?_of_block (a := ⟨eb, j, none⟩) hwe]
      exact Bd.ents j (by omega)
  · rw [World.cell?_of_block (a := ⟨eb, j, none⟩) heb]
    by_cases e : j = k
    · subst e
      obtain ⟨v, hv⟩ := Bd.room j hk
      exact ⟨_, World.cell?_setCell_same _ _ _ ((World.cell?_of_block (a := ⟨eb, j, none⟩) hwe).trans hv)⟩
    · rw [World.cell?_setCell_other _ _ _ _ (by simp <;> omega), World.cell?_of_block (a := ⟨eb, j, none⟩) hwe]
      exact Bd.room j hj
  · rw [World.frozen?_of_block (a := ⟨eb, o, none⟩) heb, World.frozen?_setCell, World.frozen?_of_block (a := ⟨eb, o, none⟩) hwe]
    exact Bd.fz o
  · by_cases e : j = k
    · subst e
      refine ⟨ga, gc, tk, ?_⟩
      rw [if_pos rfl]
      exact he.same (fun b a1 a2 => hold b (by simpa using a2) (by omega) (by omega))
    · rw [if_neg e]
      obtain ⟨ga', gc', tk', h⟩ := Bd.ok j (by omega)
      exact ⟨ga', gc', tk', h.same hfar⟩

/-- The new entry, as it is laid. -/
theorem entry_ok {w2 : World} {n x tk : Nat} {T : Nat → ByteArray} {ga : Option Addr} {gc : Nat} (hlo : lo ≤ w2.heap.size) (hcl : ∀ i, i < n → ∃ cb, ga = some ⟨cb, 0, none⟩ ∧ lo ≤ cb ∧ w2.cell? ⟨cb, i, none⟩ = some (.string (T i)))
    (hT : TaskRow w2 ws tk n x) (hx : x = n) {cs : Array Value} (e10 : cs[10]? = some (.slice ga n gc)) (e17 : cs[17]? = some (.slice (some ⟨tk, 0, none⟩) n n)) :
    EntOk (ws.alloc (.cells cs 48)) lo ws.heap.size n T ga gc tk := by
  subst hx
  have ht := hT.at_
  have hs := hT.size
  refine ⟨by omega, by omega, by rw [World.cell?_alloc_at _ _ _ _ rfl]; exact e10, by rw [World.cell?_alloc_at _ _ _ _ rfl]; exact e17, fun i hi => ?_, fun i hi => ?_, fun i hi => ?_, fun i hi => ?_⟩
  · obtain ⟨cb, h1, h2, h3⟩ := hcl i hi
    have hlt : cb < w2.heap.size := World.block_lt_of_cell? _ _ h3
    refine ⟨cb, h1, h2, ?_⟩
    rw [World.cell?_alloc_past _ _ _ (by omega), World.cell?_of_block (a := ⟨cb, i, none⟩) (hT.frame cb hlt)]
    exact h3
  · rw [World.cell?_alloc_past _ _ _ (by omega)]
    exact hT.done i hi
  · rw [World.cell?_alloc_past _ _ _ (by omega)]
    exact hT.t1 i hi
  · rw [World.cell?_alloc_past _ _ _ (by omega)]
    exact hT.t2 i hi

theorem TaskRow.below {w w2 : World} {tk n x : Nat} (hT : TaskRow w2 ws tk n x) (h : Below w.heap.size w w2) : Below w.heap.size w ws := by
  have hs := hT.size
  have hz := h.size
  exact h.trans ⟨hT.tape.2.1, hT.tape.1, hT.tape.2.2, by omega, fun b hb => hT.frame b (by omega)⟩

end

end Go.Proofs.YbulkbypeFmt
