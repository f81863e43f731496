/-
  For LawS3749BAll and LawS3749BStop: the contracts of what both call: zzs3749bcopy (function 5), bearers (6), slices.Equal at []string (7), zzs3749bmodel (8); the plain list that they speak of.
-/
import Derived.Test.YbulkbypsRows
import Derived.WalkKit
import Derived.WalkSpells
import Derived.WalkLawsBesides
import Derived.ProofKit
import Derived.Laws.CopyOwn
import Derived.BigQuiet
import Derived.Deep.QuietTactic
import Derived.Maps.OwnSet
namespace Go.Proofs.Ybulkbyps
open Go.RowKit Go.Maps

theorem hid {p : Prop} (h : p) : Hid p := h

/-- The slice at a, of n strings S 0 .. S (n - 1). -/
def Strs (w : World) (a : Option Addr) (n : Nat) (S : Nat → ByteArray) : Prop := ∀ i, i < n → ∃ b off, a = some ⟨b, off, none⟩ ∧ w.cell? ⟨b, off + i, none⟩ = some (.string (S i))

theorem Strs.keep {w w' : World} {a : Option Addr} {n : Nat} {S : Nat → ByteArray} (h : Strs w a n S) (hk : ∀ x v, w.cell? x = some v → w'.cell? x = some v) : Strs w' a n S := fun i hi => by
  obtain ⟨b, off, e, hc⟩ := h i hi
  exact ⟨b, off, e, hk _ _ hc⟩

theorem Strs.below {w w' : World} {a : Option Addr} {n : Nat} {S : Nat → ByteArray} (h : Strs w a n S) (hb : Below w.heap.size w w') : Strs w' a n S :=
  h.keep fun _ _ hx => (hb.cell (World.block_lt_of_cell? _ _ hx)).trans hx

theorem info9 : (Yba.prog.info? 9).map (fun i => (i.zero, i.size, i.bytes)) = some (some (.string ⟨#[]⟩), 1, 16) := by kernel_rfl
theorem size9 : (Yba.prog.info? 9).map (·.size) = some 1 := by kernel_rfl
theorem make22 (n : Nat) (hn : n ≤ 1024) (w : World) : (Instr.makeSlice 22 (.int .i64 (n : Int)) (.int .i64 (n : Int))).run Yba.prog w = .ok (.slice (some ⟨w.heap.size, 0, none⟩) n n) (w.alloc (.cells (madeCells #[.string ⟨#[]⟩] n) 9)) := by
  obtain ⟨i0, hi, hz0, hz1, hz2⟩ := info_parts info9
  have hmk := run_make (P := Yba.prog) w 22 9 i0 _ Yba.underlying22 hi hz0 .i64 .i64 n n (by omega) (by omega) (by rw [hz2]; omega) (by omega)
  simp only [hz1, Int.toNat_natCast, Nat.mul_one] at hmk
  exact hmk

/-! ### zzs3749bcopy -/
set_option maxRecDepth 20000 in
theorem copy_nil (w : World) : Calls Yba.prog 5 #[.slice none 0 0] w fun e w' => e = .returned (.slice none 0 0) ∧ w' = w := by
  have hnil := fun w => Lib.run_eql_slice_nil (P := Yba.prog) w 22 9 none 0 0 0 0 Yba.underlying22
  go_enter Yba.func5, Yba.ntmps5
  go_wp2
  go_ret
  exact ⟨rfl, rfl⟩

/-- The copy into the row that has just been made. -/
theorem wpList_copy9 {ops : Array Oper} {rest : List Oper} {o : Oper} {a : Act} {Q : Exit → Act → World → Prop} (w : World) (hgd : o.guard = none) (d s : Operand)
    (ho : o.op = .call { callee := .builtin .copy, args := #[d, s], argTypes := #[22, 22] }) (ad : Addr) (n c : Nat) (S : Nat → ByteArray)
    (hd : a.eval d = .slice (some ⟨w.heap.size, 0, none⟩) n n) (hs : a.eval s = .slice (some ad) n c) (hS : Strs w (some ad) n S)
    (h : ∀ w' v, w.heap.size < w'.heap.size → Below w.heap.size w w' → (∀ i, i < n → w'.cell? ⟨w.heap.size, i, none⟩ = some (.string (S i))) → wpList Yba.prog ops Q rest (a.put o.dst (.int .i64 v)) w') :
    wpList Yba.prog ops Q (o :: rest) a (w.alloc (.cells (madeCells #[.string ⟨#[]⟩] n) 9)) := by
  refine wpList_copy_splice hgd d s 22 22 ho 9 Yba.underlying22 size9 _ _ n n n c hd hs w.heap.size 0 (madeCells #[.string ⟨#[]⟩] n).toList 9 (heap_alloc_new w _) ((List.range n).map fun i => .string (S i)) (by simp) ?_ (by simp [size_madeCells]) ?_ w.heap.size w ((Below.refl _ w).alloc (Nat.le_refl _) _) (Nat.le_refl _) ?_
  · intro _
    refine ⟨rfl, ad, rfl, fun j v hj => ?_⟩
    rw [List.getElem?_map] at hj
    by_cases hjn : j < n
    · rw [List.getElem?_range hjn] at hj
      simp at hj
      obtain ⟨b, off, e, hc⟩ := hS j hjn
      obtain rfl : ad = ⟨b, off, none⟩ := by simpa using e
      rw [Addr.add_lit, World.cell?_alloc_lt _ _ _ (World.block_lt_of_cell? _ _ hc), hc, hj]
    · rw [List.getElem?_eq_none (by simpa using hjn)] at hj
      simp at hj
  · intro u hu
    simp at hu
    obtain ⟨i, _, rfl⟩ := hu
    rfl
  · intro w' hg hb
    have hg' := hg.out
    refine h w' _ (Array.getElem?_eq_some_iff.1 hg').1 hb (fun i hi => ?_)
    rw [cell_of_row w' w.heap.size i _ 9 (0, 0) hg']
    have hl : (madeCells #[Value.string ⟨#[]⟩] n).toList.length = n := by simp [size_madeCells]
    simp [splice, List.getElem?_append, hi]

set_option maxRecDepth 20000 in
set_option maxHeartbeats 400000 in
theorem copy_some (ad : Addr) (n c : Nat) (S : Nat → ByteArray) (w : World) (hn : n ≤ 1024) (hS : Strs w (some ad) n S) :
    Calls Yba.prog 5 #[.slice (some ad) n c] w fun e w' => ∃ g, e = .returned (.slice (some ⟨g, 0, none⟩) n n) ∧ w.heap.size ≤ g ∧ g < w'.heap.size ∧ Below w.heap.size w w' ∧ ∀ i, i < n → w'.cell? ⟨g, i, none⟩ = some (.string (S i)) := by
  have hnil := fun w => Lib.run_eql_slice_nil (P := Yba.prog) w 22 9 (some ad) n c 0 0 Yba.underlying22
  have hmk := make22 n hn
  have HS := hid hS
  clear hS
  go_enter Yba.func5, Yba.ntmps5
  go_wp2_with (refine wpList_copy9 w rfl (.tmp 9) (.tmp 10) rfl ad n c S rfl rfl HS.out ?_; intro w1 v1 hlt hb hcells)
  go_ret
  exact ⟨_, rfl, Nat.le_refl _, hlt, hb, hcells⟩

/-! ### slices.Equal -/
set_option maxHeartbeats 400000 in
theorem equal_true (a1 a2 : Option Addr) (n c1 c2 : Nat) (L1 L2 : Nat → ByteArray) (w : World) (hn : n ≤ 100000) (h1 : Strs w a1 n L1) (h2 : Strs w a2 n L2) (he : ∀ i, i < n → (L1 i).toList = (L2 i).toList) :
    Calls Yba.prog 7 #[.slice a1 n c1, .slice a2 n c2] w fun e w' => e = .returned (.bool true) ∧ ∃ m, w' = w.drewN m := by
  go_enter Yba.func7, Yba.ntmps7
  go_wp2
  go_loopw [13] (fun i wr => ∃ k m : Nat, k ≤ n ∧ i = .int .i64 k ∧ wr = w.drewN m) (fun i _ => n - (intOf i).toNat)
  case atStart => exact ⟨0, 0, by omega, rfl, rfl⟩
  case round =>
    obtain ⟨k, m, hk, rfl, rfl⟩ := hrel
    by_cases hlt : k < n
    · obtain ⟨b1, o1, rfl, g1⟩ := h1 k hlt
      obtain ⟨b2, o2, rfl, g2⟩ := h2 k hlt
      have hb : ((L1 k).toList == (L2 k).toList) = true := by simpa using he k hlt
      clear h1 h2 he
      go_wp2
      go_quiet (fail)
      go_wp2
      go_roundw
      case rel => exact ⟨k + 1, m + nq, by omega, by go_num, by simp⟩
      case measure => simp [intOf]; omega
    · go_wp2
      go_ret
      exact ⟨rfl, m, rfl⟩

/-! ### the list -/
/-- Of the first k strings those that are not the name. -/
def kept (S : Nat → ByteArray) (name : ByteArray) : Nat → List ByteArray
  | 0 => []
  | k + 1 => if (S k).toList = name.toList then kept S name k else kept S name k ++ [S k]
theorem kept_le (S : Nat → ByteArray) (name : ByteArray) (k : Nat) : (kept S name k).length ≤ k := by
  induction k with
  | zero => simp [kept]
  | succ k ih =>
    rw [kept]
    split
    · omega
    · rw [List.length_append]; simp; omega
theorem kept_hit {S : Nat → ByteArray} {name : ByteArray} {k : Nat} (h : (S k).toList = name.toList) : kept S name (k + 1) = kept S name k := by rw [kept, if_pos h]
theorem kept_miss {S : Nat → ByteArray} {name : ByteArray} {k : Nat} (h : ¬ (S k).toList = name.toList) : kept S name (k + 1) = kept S name k ++ [S k] := by rw [kept, if_neg h]
theorem kept_prefix (S : Nat → ByteArray) (name : ByteArray) {j k : Nat} (h : j ≤ k) : kept S name j <+: kept S name k := by
  induction k with
  | zero => obtain rfl : j = 0 := by omega
            exact List.prefix_rfl
  | succ k ih =>
    by_cases e : j = k + 1
    · subst e; exact List.prefix_rfl
    · refine (ih (by omega)).trans ?_
      rw [kept]
      split
      · exact List.prefix_rfl
      · exact List.prefix_append _ _

/-! ### appending one string -/
theorem wpList_app9 {ops : Array Oper} {rest : List Oper} {o : Oper} {a : Act} {Q : Exit → Act → World → Prop} (w : World) (hgd : o.guard = none) (s x : Operand)
    (ho : o.op = .call { callee := .builtin .append, args := #[s, x], argTypes := #[22, 22] })
    (base : Nat) (v : Value) (n : Nat) (xs : List Value) (hs : a.eval s = v) (hown : w.ownsRow base 9 1 v n xs) (t : ByteArray) (hx : a.eval x = .slice (some ⟨w.heap.size, 0, none⟩) 1 1)
    (hn : n ≤ 100000) (hbase : base ≤ w.heap.size)
    (h : ∀ g cap w', w'.ownsRow base 9 1 (.slice (some ⟨g, 0, none⟩) (n + 1) cap) (n + 1) (xs ++ [.string t]) → (w.alloc (.cells #[.string t] 9)).grownBy w' v.ownBlock → wpList Yba.prog ops Q rest (a.put o.dst (.slice (some ⟨g, 0, none⟩) (n + 1) cap)) w') :
    wpList Yba.prog ops Q (o :: rest) a (w.alloc (.cells #[.string t] 9)) := by
  obtain ⟨i0, hi, hz0, hz1, hz2⟩ := info_parts info9
  refine wpList_append_own (w.alloc (.cells #[.string t] 9)) hgd s x 22 ho base 9 i0 (.string ⟨#[]⟩) 1 16 Yba.underlying22 hi hz0 hz1 hz2 rfl (by decide) v n xs hs (hown.alloc _) ⟨w.heap.size, 0, none⟩ 1 1 [.string t] hx rfl (cell_one_new _ _ _) ?_ (by unfold maxLen; omega) (by omega) (by simp; omega) ?_
  · intro u hu
    simp at hu
    subst hu
    rfl
  · intro v' w' hown' hgrow _
    rcases hown'.2 with ⟨_, h0⟩ | ⟨g, cap, _, rfl, _⟩
    · omega
    · exact h g cap w' hown' hgrow

/-! ### zzs3749bmodel -/
set_option maxRecDepth 20000 in
set_option maxHeartbeats 1000000 in
theorem model_any (name : ByteArray) (a : Option Addr) (n c : Nat) (S : Nat → ByteArray) (w : World) (hn : n ≤ 1024) (hS : Strs w a n S) :
    Calls Yba.prog 8 #[.string name, .slice a n c] w fun e w' => ∃ g cap, e = .returned (.slice (some ⟨g, 0, none⟩) (name :: kept S name n).length cap) ∧ w.heap.size ≤ g ∧ (name :: kept S name n).length ≤ cap ∧
      w'.ownsRow w.heap.size 9 1 (.slice (some ⟨g, 0, none⟩) (name :: kept S name n).length cap) (name :: kept S name n).length ((name :: kept S name n).map Value.string) ∧ Below w.heap.size w w' := by
  have HS := hid hS
  clear hS
  go_enter Yba.func8, Yba.ntmps8
  go_wp2
  go_loopw [5, 6] (fun v i wr => ∃ k g cap : Nat, k ≤ n ∧ i = .int .i64 k ∧ v = .slice (some ⟨g, 0, none⟩) (name :: kept S name k).length cap ∧ wr.ownsRow w.heap.size 9 1 (.slice (some ⟨g, 0, none⟩) (name :: kept S name k).length cap) (name :: kept S name k).length ((name :: kept S name k).map Value.string) ∧ Below w.heap.size w wr) (fun _ i _ => n - (intOf i).toNat)
  case atStart => exact ⟨0, _, _, by omega, rfl, rfl, World.ownsRow_lit w #[.string name] 1 (Nat.le_refl _) (by decide) rfl, (Below.refl _ w).alloc (Nat.le_refl _) _⟩
  case round =>
    obtain ⟨k, g, cap, hk, rfl, rfl, hown, hb⟩ := hrel
    by_cases hlt : k < n
    · obtain ⟨b, off, rfl, c0⟩ := HS.out k hlt
      have g0 : wr.cell? ⟨b, off + k, none⟩ = some (.string (S k)) := (hb.cell (World.block_lt_of_cell? _ _ c0)).trans c0
      have HB := hid hb
      have HO := hid hown
      have hsz := hb.size
      have hkl := kept_le S name k
      clear c0 hb hown
      by_cases hh : (S k).toList = name.toList
      · have hb : ((S k).toList == name.toList) = true := by simpa using hh
        have HK := hid (kept_hit hh)
        clear hh
        go_wp2
        go_roundw
        case rel => exact ⟨k + 1, g, cap, by omega, by go_num, by rw [HK.out], by rw [HK.out]; exact HO.out, HB.out⟩
        case measure => simp [intOf]; omega
      · have hb : ((S k).toList == name.toList) = false := by simpa using hh
        have HK := hid (kept_miss hh)
        obtain ⟨L, hL⟩ : ∃ L, L = (name :: kept S name k).length := ⟨_, rfl⟩
        have hLb : L ≤ 1025 := by rw [hL]; simp; omega
        rw [← hL] at HO ⊢
        have HL := hid hL
        clear hh hL
        go_wp2_with (at_builtin; refine wpList_app9 wr rfl (.tmp 21) (.tmp 26) rfl w.heap.size (.slice (some ⟨g, 0, none⟩) L cap) L ((name :: kept S name k).map Value.string) rfl HO.out (S k) rfl (by omega) hsz ?_; intro g1 cap1 w1 o1 gr1; have O1 := hid o1; have HB1 : Hid (Below w.heap.size w w1) := (HB.out.alloc hsz _).grown gr1 (by simp; omega) (fun j hj => (HO.out.lt j hj).1); clear o1 gr1)
        go_roundw
        case rel =>
          have e1 : (name :: kept S name (k + 1)).length = L + 1 := by rw [HK.out, HL.out]; simp
          refine ⟨k + 1, g1, cap1, by omega, by go_num, by rw [e1], ?_, HB1.out⟩
          rw [e1, HK.out]
          simpa using O1.out
        case measure => simp [intOf]; omega
    · obtain rfl : k = n := by omega
      go_wp2
      go_ret
      have hg := hown.lt g rfl
      refine ⟨g, cap, rfl, hg.1, ?_, hown, hb⟩
      rcases hown.2 with ⟨hx, _⟩ | ⟨g', cap', cur, hx, _, _, hle, _⟩
      · simp at hx
      · simp only [Value.slice.injEq, Option.some.injEq, Addr.mk.injEq, and_true, true_and] at hx
        obtain ⟨rfl, rfl⟩ := hx
        simpa using hle

/-! ### bearers -/
set_option maxHeartbeats 400000 in
theorem bearers_any (p : Option Addr) (name : ByteArray) (w : World) :
    Calls Yba.prog 6 #[.pointer p, .string name] w fun e w' => e = .returned (.func (.func 10) #[] #[.pointer (some ⟨w.heap.size + 1, 0, none⟩), .pointer (some ⟨w.heap.size, 0, none⟩)]) ∧ w' = (w.alloc (.cells #[.pointer p] 24)).alloc (.cells #[.string name] 9) := by
  go_enter Yba.func6, Yba.ntmps6
  go_wp2
  go_ret
  exact ⟨rfl, rfl⟩

/-! ### the providers' map -/
/-- An element is a slice of strings: nil, or at the head of a block. -/
def slElem : Value → Option (DataW Unit × List MemPlace)
  | .slice (some ⟨g, 0, .none⟩) n c => some (.agg [.lit (.int .u64 g), .lit (.int .u64 n), .lit (.int .u64 c)], [])
  | .slice .none 0 0 => some (.nil, [])
  | _ => .none

theorem slElem_inj {v v' : Value} {d : DataW Unit} {ps ps' : List MemPlace} (h : slElem v = some (d, ps)) (h' : slElem v' = some (d, ps')) : v = v' := by
  unfold slElem at h h'
  split at h
  · split at h'
    · simp at h h'
      have e := h.1.trans h'.1.symm
      simp at e
      obtain ⟨e1, e2, e3⟩ := e
      obtain rfl := Int.ofNat.inj (by simpa using e1)
      obtain rfl := Int.ofNat.inj (by simpa using e2)
      obtain rfl := Int.ofNat.inj (by simpa using e3)
      rfl
    · simp at h h'
      have e := h.1.trans h'.1.symm
      simp at e
    · simp at h'
  · split at h'
    · simp at h h'
      have e := h.1.trans h'.1.symm
      simp at e
    · rfl
    · simp at h'
  · simp at h

/-- zzs3749bcopy, its result as an element of the map. -/
theorem copy_el (a : Option Addr) (n c : Nat) (S : Nat → ByteArray) (w : World) (hn : n ≤ 1024) (h : (a = none ∧ n = 0 ∧ c = 0) ∨ ∃ ad, a = some ad) (hS : Strs w a n S) :
    Calls Yba.prog 5 #[.slice a n c] w fun e w' => ∃ ga gc d, e = .returned (.slice ga n gc) ∧ slElem (.slice ga n gc) = some (d, []) ∧ Below w.heap.size w w' ∧ ∀ i, i < n → ∃ g, ga = some ⟨g, 0, none⟩ ∧ w.heap.size ≤ g ∧ w'.cell? ⟨g, i, none⟩ = some (.string (S i)) := by
  rcases h with ⟨rfl, rfl, rfl⟩ | ⟨ad, rfl⟩
  · exact (copy_nil w).mono fun e w' ⟨he, hw⟩ => ⟨none, 0, .nil, he, rfl, by rw [hw]; exact Below.refl _ _, fun i hi => by omega⟩
  · exact (copy_some ad n c S w hn hS).mono fun e w' ⟨g, he, h1, _, hb, hc⟩ => ⟨some ⟨g, 0, none⟩, n, _, he, rfl, hb, fun i hi => ⟨g, rfl, h1, hc i hi⟩⟩

/-! ### the text, statement by statement -/
/-- The text behind the first n statements. -/
def sndN : Nat → Code → Code
  | 0, c => c
  | n + 1, .seq _ b => sndN n b
  | _ + 1, c => c
/-- The statement behind the first n. -/
def fstN : Nat → Code → Code
  | 0, .seq a _ => a
  | n + 1, .seq _ b => fstN n b
  | _, c => c

/-- A name for the world. -/
theorem gen_world {P : Program} {c : Code} {Q : Exit → Act → World → Prop} {a : Act} {W : World} (h : ∀ W', W' = W → Code.wp P c Q a W') : Code.wp P c Q a W := h W rfl

theorem law9 : Keyed Yba.prog 9 := string_keyed Yba.underlying9
theorem zero22 (w : World) : (zeroValue 22).run Yba.prog w = .ok (.slice none 0 0) w := by kernel_rfl

theorem ownsMap_later {w w' : World} {mb k : Nat} {D : DataW Unit} (h : w.ownsMap Yba.prog 9 slElem mb k D) (hb : Below w.heap.size w w') : w'.ownsMap Yba.prog 9 slElem mb k D := by
  obtain ⟨es, clock, h1, h2⟩ := h
  exact ⟨es, clock, (hb.block mb (Array.getElem?_eq_some_iff.1 h1).1).trans h1, h2⟩

/-- The look-up of the name in the providers' map. -/
theorem look_name {mb k : Nat} {D d : DataW Unit} {name : ByteArray} {a : Option Addr} {n c : Nat} {w : World} (hown : w.ownsMap Yba.prog 9 slElem mb k D) (hsz : name.size ≤ maxLen) (hE : slElem (.slice a n c) = some (d, [])) (hat : ∀ z, D.atKey (.string name.data.toList) z = d) (m : Nat) :
    (Instr.lookup 25 (.map (some mb)) (.string name) false).run Yba.prog (w.drewN m) = .ok (.slice a n c) (w.drewN m) := by
  have ho : (w.drewN m).ownsMap Yba.prog 9 slElem mb k D := hown
  obtain ⟨v, ps, hrun, hv⟩ := ho.lookup law9 Yba.underlying25 (zero22 _) (zp := []) (zd := .nil) rfl (Go.WideMaps.keyOf_string_mk Yba.underlying9 hsz)
  rw [hat] at hv
  rw [hrun, slElem_inj hv hE]

end Go.Proofs.Ybulkbyps
