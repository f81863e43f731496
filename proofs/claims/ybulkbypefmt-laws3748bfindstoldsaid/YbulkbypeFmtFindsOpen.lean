/-
  For LawS3748BFinds: the jobs, opened: from the reading of the argument to what the walk is told.
-/
import Derived.Test.YbulkbypeFmtFindsWalk
import Derived.Deep.SlicePairs
import Derived.Deep.Strs
import Derived.SizedLaws
import Derived.OpenShut
namespace Go.Proofs.YbulkbypeFmt
open Go.ChangeShapes Go.WideShapes Go.RowKit Go.Deep

theorem cells26 : Ybaf.prog.cellsOf 26 = 2 := by kernel_rfl
theorem cells23 : Ybaf.prog.cellsOf 23 = 1 := by kernel_rfl
theorem cells24 : Ybaf.prog.cellsOf 24 = 1 := by kernel_rfl
theorem cells9 : Ybaf.prog.cellsOf 9 = 1 := by kernel_rfl
theorem bytes9 : Ybaf.prog.bytesOf 9 = 16 := by kernel_rfl

theorem mem_weightsAll {H : Type} {P : Program} {e : TypeId} {d : DataW H} {n : Nat} : ∀ {l : List (DataW H)}, d ∈ l → n ∈ d.weights P e → n ∈ DataW.weightsAll P e l
  | [], h, _ => by simp at h
  | x :: r, h, hn => by
    simp only [DataW.weightsAll, List.mem_append]
    rcases List.mem_cons.1 h with rfl | h
    · exact Or.inl hn
    · exact Or.inr (mem_weightsAll h hn)

theorem plain_addr {w : World} {a : Addr} {v : Value} (h : w.cell? (a.add 0) = some v) : ∃ b off, a = ⟨b, off, none⟩ := by
  obtain ⟨b, off, spot⟩ := a
  have hspot : spot = none := by simpa [Addr.add] using World.cell?_spot h
  subst hspot
  exact ⟨b, off, rfl⟩

theorem jobs_of {H : Type} {enc : TypeId × Value → H} {W : World} {fuel : Nat} {a0 : Option Addr} {len cap : Nat} {d : DataW H} {p : List MemPlace} (hf : DataW.trod enc Ybaf.prog W 0 (fun _ => true) true fuel 22 [.slice a0 len cap] = some (d, p))
    (hw : ∀ n ∈ d.weights Ybaf.prog 22, n ≤ reachBytes) : len ≤ maxLen ∧ ∃ ID ta tl tc S, Jobs W a0 len ID ta tl tc S := by
  have hr47 := reachBytes_lt
  rcases open_slice_pairs Ybaf.underlying22 Ybaf.underlying26 cells26 rfl rfl cells23 cells24 hf with ⟨hcs, _⟩ | ⟨a, len', cap', m, n, V0, V1, D0, D1, P0, P1, hcs, _, hl, hm, hmm, hx, hel⟩
  · simp at hcs
    obtain ⟨rfl, rfl, rfl⟩ := hcs
    exact ⟨by omega, fun _ => 0, fun _ => none, fun _ => 0, fun _ => 0, fun _ _ => ByteArray.empty, ⟨fun j h => by omega, fun _ => by decide, fun _ => by omega, fun j h => by omega⟩⟩
  · simp at hcs
    obtain ⟨rfl, rfl, rfl⟩ := hcs
    refine ⟨by omega, ?_⟩
    have hmc : m = cap := by simpa using hmm
    simp only [Prod.mk.injEq] at hx
    obtain ⟨rfl, _⟩ := hx
    have each : ∀ i, i < len → ∃ q : Int × Option Addr × Nat × Nat × (Nat → ByteArray), V0 i = .int .u64 q.1 ∧ (Lit.int .u64 q.1).wf = true ∧ V1 i = .slice q.2.1 q.2.2.1 q.2.2.2.1 ∧ q.2.2.1 ≤ 1000000000000000 ∧
        ((q.2.1 = none ∧ q.2.2.1 = 0 ∧ q.2.2.2.1 = 0) ∨ ∃ ad, q.2.1 = some ad ∧ (∀ k, k < q.2.2.1 → W.cell? (ad.add k) = some (.string (q.2.2.2.2 k))) ∧ ∀ k, k < q.2.2.1 → ∃ tb to', ad = ⟨tb, to', none⟩) := by
      intro i hi
      obtain ⟨_, _, t0, t1⟩ := hel i (by omega)
      obtain ⟨x, e0, _, wx⟩ := DataW.trod_int Ybaf.underlying23 t0
      have e0' : V0 i = .int .u64 x := by simpa using e0
      have hwt : ∀ n ∈ (D1 i).weights Ybaf.prog 24, n ≤ reachBytes := fun n hn => by
        refine hw n ?_
        simp only [DataW.weights, Ybaf.underlying22, List.mem_cons, List.mem_append]
        refine Or.inr (Or.inl (mem_weightsAll (d := .agg [D0 i, D1 i]) (List.mem_map.2 ⟨i, List.mem_range.2 hi, rfl⟩) ?_))
        simp only [DataW.weights, Ybaf.underlying26, List.map_cons, List.map_nil, DataW.weightsEach, List.append_nil, List.mem_append]
        exact Or.inr hn
      rcases open_strs Ybaf.underlying24 Ybaf.underlying9 cells9 t1 with ⟨hc, _⟩ | ⟨ad, l, c, m', Sx, hc, _, hlc, hcm, hm', hx', hcell⟩
      · refine ⟨(x, none, 0, 0, fun _ => ByteArray.empty), e0', wx, by simpa using hc, by simp, Or.inl ⟨rfl, rfl, rfl⟩⟩
      · simp only [Prod.mk.injEq] at hx'
        have hmc' : m' = c := by simpa using hm'
        have hb := hwt ((((List.range l).map fun i => (DataW.lit (.string (Sx i).data.toList) : DataW H)).length + ((List.range (m' - l)).map fun j => (DataW.lit (.string (Sx (l + j)).data.toList) : DataW H)).length) * Ybaf.prog.bytesOf 9) (by
          rw [hx'.1]
          simp [DataW.weights, Ybaf.underlying24])
        rw [bytes9] at hb
        simp at hb
        refine ⟨(x, some ad, l, c, Sx), e0', wx, by simpa using hc, by simp; omega, Or.inr ⟨ad, rfl, fun k hk => (hcell k (by simp at hk; omega)).1, fun k hk => ?_⟩⟩
        exact plain_addr (hcell 0 (by simp at hk; omega)).1
    obtain ⟨q, hq⟩ := choose_lt each
    refine ⟨fun j => if j < len then (q j).1 else 0, fun j => (q j).2.1, fun j => if j < len then (q j).2.2.1 else 0, fun j => (q j).2.2.2.1, fun j => (q j).2.2.2.2, ⟨fun j hj => ?_, fun j => ?_, fun j => ?_, fun j hj => ?_⟩⟩
    · obtain ⟨b, off, rfl⟩ := plain_addr (hel 0 (by omega)).1
      obtain ⟨c0, c1, _, _⟩ := hel j (by omega)
      obtain ⟨e0, _, e1, _⟩ := hq j hj
      rw [Addr.add_lit, e0] at c0
      rw [Addr.add_lit, e1] at c1
      rw [if_pos hj, if_pos hj]
      exact ⟨b, off, rfl, World.block_lt_of_cell? _ _ c0, c0, c1⟩
    · by_cases hj : j < len
      · rw [if_pos hj]; exact (hq j hj).2.1
      · rw [if_neg hj]; decide
    · by_cases hj : j < len
      · rw [if_pos hj]; exact (hq j hj).2.2.2.1
      · rw [if_neg hj]; omega
    · rw [if_pos hj]
      exact (hq j hj).2.2.2.2

set_option maxRecDepth 20000 in
set_option maxHeartbeats 400000 in
theorem walk_long (a0 : Option Addr) (len cap : Nat) (jm tm : Bool) (qj js ts : Int) (qt : ByteArray) (w : World) (h : 512 < len) (hm : len ≤ maxLen) :
    Calls Ybaf.prog 3 #[.slice a0 len cap, .bool jm, .int .u64 qj, .int .u8 js, .bool tm, .string qt, .int .u8 ts] w fun e w' => e = .returned (.bool true) ∧ Below w.heap.size w w' := by
  unfold maxLen at hm
  go_enter Ybaf.func3, Ybaf.ntmps3
  go_wp2
  go_ret
  exact ⟨rfl, Below.refl _ _⟩

end Go.Proofs.YbulkbypeFmt
