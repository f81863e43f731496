/-
  For LawS3748BFinds: the plain facts: the last job with an id, the first target; what the map reads as; how the entries lie in memory. No code of the program in here.
-/
import Derived.WalkKit
import Derived.WalkSpells
import Derived.Maps.OwnSet
namespace Go.Proofs.YbulkbypeFmt
open Go.RowKit Go.Maps

theorem hid {p : Prop} (h : p) : Hid p := h

/-- A name for the world. -/
theorem gen_world {P : Program} {c : Code} {Q : Exit → Act → World → Prop} {a : Act} {W : World} (h : ∀ W', W' = W → Code.wp P c Q a W') : Code.wp P c Q a W := h W rfl

theorem least_hit {n : Nat} {p : Nat → Prop} (h : ∃ i, i < n ∧ p i) : ∃ i, i < n ∧ p i ∧ ∀ j, j < i → ¬ p j := by
  induction n with
  | zero => obtain ⟨i, hi, _⟩ := h; omega
  | succ n ih =>
    by_cases hh : ∃ i, i < n ∧ p i
    · obtain ⟨i, h1, h2, h3⟩ := ih hh
      exact ⟨i, by omega, h2, h3⟩
    · obtain ⟨i, hi, hp⟩ := h
      have : i = n := by
        by_cases e : i < n
        · exact absurd ⟨i, e, hp⟩ hh
        · omega
      subst this
      exact ⟨i, by omega, hp, fun j hj hpj => hh ⟨j, hj, hpj⟩⟩

theorem last_hit {n : Nat} {p : Nat → Prop} (h : ∃ i, i < n ∧ p i) : ∃ i, i < n ∧ p i ∧ ∀ j, i < j → j < n → ¬ p j := by
  induction n with
  | zero => obtain ⟨i, hi, _⟩ := h; omega
  | succ n ih =>
    by_cases hn : p n
    · exact ⟨n, by omega, hn, fun j h1 h2 => by omega⟩
    · obtain ⟨i, hi, hp⟩ := h
      have hlt : i < n := by
        rcases Nat.lt_or_ge i n with h | h
        · exact h
        · have : i = n := by omega
          subst this
          exact absurd hp hn
      obtain ⟨i', h1, h2, h3⟩ := ih ⟨i, hlt, hp⟩
      refine ⟨i', by omega, h2, fun j h4 h5 => ?_⟩
      by_cases e : j = n
      · subst e; exact hn
      · exact h3 j h4 (by omega)

/-! ### the map: an element is a pointer to an entry's block -/
def ptrElem : Value → Option (DataW Unit × List MemPlace)
  | .pointer (some ⟨b, 0, .none⟩) => some (.lit (.int .u64 b), [])
  | .pointer .none => some (.lit (.bool false), [])
  | _ => .none

theorem ptrElem_mk (b : Nat) : ptrElem (.pointer (some ⟨b, 0, .none⟩)) = some (.lit (.int .u64 b), []) := rfl

theorem ptrElem_inv {v : Value} {b : Nat} {ps : List MemPlace} (h : ptrElem v = some (.lit (.int .u64 b), ps)) : v = .pointer (some ⟨b, 0, .none⟩) := by
  unfold ptrElem at h
  split at h
  · rename_i b'
    simp at h
    have e : b' = b := by omega
    rw [e]
  · simp at h
  · simp at h

structure MapIs (ID : Nat → Int) (Ef : Nat → Nat) (D : DataW Unit) (k : Nat) : Prop where
  isMap : IsMap D
  miss : ∀ id, (∀ j, j < k → ID j ≠ id) → Maps.has D (.int .u64 id) = false
  hit : ∀ id K, K < k → ID K = id → (∀ j, K < j → j < k → ID j ≠ id) → Maps.has D (.int .u64 id) = true ∧ ∀ z, D.atKey (.int .u64 id) z = .lit (.int .u64 (Ef K))

theorem MapIs.start (ID : Nat → Int) (Ef : Nat → Nat) : MapIs ID Ef (.map []) 0 := ⟨isMap_empty, fun _ _ => rfl, fun _ _ h => by omega⟩

theorem MapIs.put {ID : Nat → Int} {Ef : Nat → Nat} {D : DataW Unit} {k : Nat} (h : MapIs ID Ef D k) (e : Nat) : MapIs ID (fun j => if j = k then e else Ef j) (D.put (.int .u64 (ID k)) (.lit (.int .u64 e))) (k + 1) := by
  refine ⟨h.isMap.put _ _, ?_, ?_⟩
  · intro id hid
    have hk := hid k (by omega)
    rw [has_put_other (by intro e; simp at e; exact hk e.symm)]
    exact h.miss id fun j hj => hid j (by omega)
  · intro id K hK hid hlast
    by_cases e1 : K = k
    · subst e1
      subst hid
      refine ⟨has_put_same h.isMap (show WideAt.IsKeyLit (.int .u64 (ID K)) from trivial) _, fun z => ?_⟩
      rw [atKey_put_same h.isMap (show WideAt.IsKeyLit (.int .u64 (ID K)) from trivial), if_pos rfl]
    · have hk := hlast k (by omega) (by omega)
      obtain ⟨h1, h2⟩ := h.hit id K (by omega) hid (fun j a b => hlast j a (by omega))
      rw [has_put_other (by intro e; simp at e; exact hk e.symm)]
      refine ⟨h1, fun z => ?_⟩
      rw [atKey_put_other (by intro e; simp at e; exact hk e.symm), if_neg e1]
      exact h2 z

/-! ### memory -/
theorem lt_of_heap {w : World} {b : Nat} {o : Obj} (h : w.heap[b]? = some o) : b < w.heap.size := (Array.getElem?_eq_some_iff.1 h).1

/-- An entry that lies in block E: its targets (a clone), its tasks. -/
structure EntOk (w : World) (lo E n : Nat) (S : Nat → ByteArray) (ga : Option Addr) (gc tk : Nat) : Prop where
  loE : lo ≤ E
  loT : lo ≤ tk
  c10 : w.cell? ⟨E, 10, .none⟩ = some (.slice ga n gc)
  c17 : w.cell? ⟨E, 17, .none⟩ = some (.slice (some ⟨tk, 0, .none⟩) n n)
  tg : ∀ i, i < n → ∃ cb, ga = some ⟨cb, 0, .none⟩ ∧ lo ≤ cb ∧ w.cell? ⟨cb, i, .none⟩ = some (.string (S i))
  t0 : ∀ i, i < n → w.cell? ⟨tk, i * 3, .none⟩ = some (.int .i64 i)
  t1 : ∀ i, i < n → w.cell? ⟨tk, i * 3 + 1, .none⟩ = some (.int .i64 0)
  t2 : ∀ i, i < n → w.cell? ⟨tk, i * 3 + 2, .none⟩ = some (.bool false)

theorem cell_same {w w' : World} {lo b o : Nat} {v : Value} (h : w.cell? ⟨b, o, .none⟩ = some v) (hb : lo ≤ b) (hk : ∀ b, lo ≤ b → b < w.heap.size → w'.heap[b]? = w.heap[b]?) : w'.cell? ⟨b, o, .none⟩ = some v :=
  (World.cell?_of_block (a := ⟨b, o, .none⟩) (hk b hb (World.block_lt_of_cell? _ _ h))).trans h

theorem EntOk.same {w w' : World} {lo E n : Nat} {S : Nat → ByteArray} {ga : Option Addr} {gc tk : Nat} (h : EntOk w lo E n S ga gc tk) (hk : ∀ b, lo ≤ b → b < w.heap.size → w'.heap[b]? = w.heap[b]?) : EntOk w' lo E n S ga gc tk :=
  ⟨h.loE, h.loT, cell_same h.c10 h.loE hk, cell_same h.c17 h.loE hk, fun i hi => by
    obtain ⟨cb, h1, h2, h3⟩ := h.tg i hi
    exact ⟨cb, h1, h2, cell_same h3 h2 hk⟩, fun i hi => cell_same (h.t0 i hi) h.loT hk, fun i hi => cell_same (h.t1 i hi) h.loT hk, fun i hi => cell_same (h.t2 i hi) h.loT hk⟩

/-- The tasks, x of them numbered. -/
structure TaskRow (w0 ws : World) (tk n x : Nat) : Prop where
  done : ∀ i, i < x → ws.cell? ⟨tk, i * 3, .none⟩ = some (.int .i64 i)
  todo : ∀ i, x ≤ i → i < n → ws.cell? ⟨tk, i * 3, .none⟩ = some (.int .i64 0)
  t1 : ∀ i, i < n → ws.cell? ⟨tk, i * 3 + 1, .none⟩ = some (.int .i64 0)
  t2 : ∀ i, i < n → ws.cell? ⟨tk, i * 3 + 2, .none⟩ = some (.bool false)
  fz : ∀ o, ws.frozen? ⟨tk, o, .none⟩ = false
  size : ws.heap.size = w0.heap.size + 1
  frame : ∀ b, b < w0.heap.size → ws.heap[b]? = w0.heap[b]?
  tape : ws.tape = w0.tape ∧ ws.os = w0.os ∧ ws.output = w0.output
  at_ : tk = w0.heap.size

theorem madeAt (z : Array Value) (m j : Nat) (hj : j < m) : (madeCells z m)[j]? = some z[j % z.size]! := by
  simp [madeCells, hj]

theorem TaskRow.start (w0 : World) (n : Nat) : TaskRow w0 (w0.alloc (.cells (madeCells #[.int .i64 0, .int .i64 0, .bool false] (n * 3)) 38)) w0.heap.size n 0 := by
  refine ⟨fun i h => by omega, fun i _ hi => ?_, fun i hi => ?_, fun i hi => ?_, fun o => World.frozen?_alloc_at _ _ _ _ rfl, by simp, fun b hb => Below.heap_alloc _ _ _ hb, ⟨rfl, rfl, rfl⟩, rfl⟩
  · rw [World.cell?_alloc_at _ _ _ _ rfl, madeAt _ _ _ (by omega)]
    simp
  · rw [World.cell?_alloc_at _ _ _ _ rfl, madeAt _ _ _ (by omega)]
    have : (i * 3 + 1) % 3 = 1 := by omega
    simp [this]
  · rw [World.cell?_alloc_at _ _ _ _ rfl, madeAt _ _ _ (by omega)]
    have : (i * 3 + 2) % 3 = 2 := by omega
    simp [this]

theorem TaskRow.step {w0 ws : World} {tk n x : Nat} (h : TaskRow w0 ws tk n x) (hx : x < n) : TaskRow w0 (ws.setCell ⟨tk, x * 3, .none⟩ (.int .i64 x)) tk n (x + 1) := by
  refine ⟨fun i hi => ?_, fun i h1 h2 => ?_, fun i hi => ?_, fun i hi => ?_, fun o => ?_, by simp [h.size], fun b hb => ?_, h.tape, h.at_⟩
  · by_cases e : i = x
    · subst e
      exact World.cell?_setCell_same _ _ _ (h.todo i (by omega) hx)
    · rw [World.cell?_setCell_other _ _ _ _ (by simp <;> omega)]
      exact h.done i (by omega)
  · rw [World.cell?_setCell_other _ _ _ _ (by simp <;> omega)]
    exact h.todo i (by omega) h2
  · rw [World.cell?_setCell_other _ _ _ _ (by simp <;> omega)]
    exact h.t1 i hi
  · rw [World.cell?_setCell_other _ _ _ _ (by simp <;> omega)]
    exact h.t2 i hi
  · rw [World.frozen?_setCell]
    exact h.fz o
  · rw [Below.heap_setCell _ _ _ _ (by have := h.at_; simp; omega)]
    exact h.frame b hb

end Go.Proofs.YbulkbypeFmt
