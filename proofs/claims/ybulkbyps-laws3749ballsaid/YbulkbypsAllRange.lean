/-
  For LawS3749BAll: the range over bearers.
-/
import Derived.Test.YbulkbypsAllTail
namespace Go.Proofs.Ybulkbyps
open Go.RowKit Go.Maps Go.Shelf

attribute [local go_sem] Oper.semAt_some

theorem wpListIn_app9 {F : Fence} {N : Nat} {ops : Array Oper} {rest : List Oper} {o : Oper} {a : Act} {Q : Exit → Act → World → Prop} (w : World) (hgd : o.guard = none) (s x : Operand)
    (ho : o.op = .call { callee := .builtin .append, args := #[s, x], argTypes := #[22, 22] })
    (base : Nat) (v : Value) (n : Nat) (xs : List Value) (hs : a.eval s = v) (hown : w.ownsRow base 9 1 v n xs) (t : ByteArray) (hx : a.eval x = .slice (some ⟨w.heap.size, 0, none⟩) 1 1)
    (hn : n ≤ 100000) (hbase : base ≤ w.heap.size)
    (h : ∀ g cap w', w'.ownsRow base 9 1 (.slice (some ⟨g, 0, none⟩) (n + 1) cap) (n + 1) (xs ++ [.string t]) → (w.alloc (.cells #[.string t] 9)).grownBy w' v.ownBlock → wpListIn F N Yba.prog ops Q rest (a.put o.dst (.slice (some ⟨g, 0, none⟩) (n + 1) cap)) w') :
    wpListIn F N Yba.prog ops Q (o :: rest) a (w.alloc (.cells #[.string t] 9)) := by
  obtain ⟨i0, hi, hz0, hz1, hz2⟩ := info_parts info9
  refine wpListIn_append_own (w.alloc (.cells #[.string t] 9)) hgd s x 22 ho base 9 i0 (.string ⟨#[]⟩) 1 16 Yba.underlying22 hi hz0 hz1 hz2 rfl (by decide) v n xs hs (hown.alloc _) ⟨w.heap.size, 0, none⟩ 1 1 [.string t] hx rfl (cell_one_new _ _ _) ?_ (by unfold maxLen; omega) (by omega) (by simp; omega) ?_
  · intro u hu
    simp at hu
    subst hu
    rfl
  · intro v' w' hown' hgrow _
    rcases hown'.2 with ⟨_, h0⟩ | ⟨g, cap, _, rfl, _⟩
    · omega
    · exact h g cap w' hown' hgrow

theorem ownsRow_wider {w : World} {base base' n : Nat} {v : Value} {xs : List Value} (h : w.ownsRow base 9 1 v n xs) (hb : base' ≤ base) : w.ownsRow base' 9 1 v n xs := by
  refine ⟨h.1, ?_⟩
  rcases h.2 with hn | ⟨g, cap, cur, rfl, h1, rest⟩
  · exact .inl hn
  · exact .inr ⟨g, cap, cur, rfl, Nat.le_trans hb h1, rest⟩

/-- Behind 'got = append(got, n)'. -/
theorem collected {W w1 : World} {n₀ base gb k m : Nat} {v v' : Value} {xs ys : List Value} {o : Obj} (hv : Boxed W gb 22 v) (hrow : W.ownsRow base 9 1 v k xs) (hbase : base ≤ W.heap.size) (h1 : n₀ ≤ gb) (h2 : gb < base)
    (hown' : w1.ownsRow base 9 1 v' m ys) (hgrow : (W.alloc o).grownBy w1 v.ownBlock) :
    Boxed w1 gb 22 v ∧ Boxed (w1.setCell ⟨gb, 0, none⟩ v') gb 22 v' ∧ (w1.setCell ⟨gb, 0, none⟩ v').ownsRow base 9 1 v' m ys ∧ KeepsFrom base W (w1.setCell ⟨gb, 0, none⟩ v') ∧ Kp base gb W (w1.setCell ⟨gb, 0, none⟩ v') ∧ Below n₀ W (w1.setCell ⟨gb, 0, none⟩ v') := by
  obtain ⟨a1, a2, _, a4, a5⟩ := hv.appended (n₀ := n₀) (by decide) (ownsRow_wider hrow (by omega)) (by omega) h1 (ownsRow_wider hown' (by omega)) hgrow
  obtain ⟨low, _⟩ := app_low hrow hbase hgrow
  exact ⟨a1, a2, ownsRow_setCell_below hown' h2 _, a4.from _, ⟨a4.size, fun b hb hne => (Below.heap_setCell _ _ _ _ hne).trans (low b hb)⟩, a5⟩

/-- Between two rounds. -/
def Inv (base gb : Nat) (w W0 : World) (pre : List ByteArray) (W : World) : Prop :=
  (∃ v, Boxed W gb 22 v ∧ W.ownsRow base 9 1 v pre.length (pre.map Value.string)) ∧ (base ≤ W.heap.size ∧ Kp base gb W0 W) ∧ Below w.heap.size w W

theorem inv_own {base gb : Nat} {w W0 : World} (hw : w.heap.size ≤ base) (hgb : gb < base) : OwnFrom base (Inv base gb w W0) := by
  rintro pre A B row ⟨⟨v, hv, ho⟩, ⟨hs, hk⟩, hb⟩ hg hr
  have hne : ∀ b, b < base → some b ≠ row := fun b h e => by have := (hr b e.symm).1; omega
  refine ⟨⟨v, hv.kept hg (hne gb hgb), ho.kept hg ?_⟩, ⟨Nat.le_trans hs hg.size, Nat.le_trans hk.1 hg.size, fun b h1 h2 => (hg.block b (by omega) (hne b h1)).trans (hk.2 b h1 h2)⟩, hb.grown hg hb.size (fun j e => Nat.le_trans hw (hr j e).1)⟩
  rcases ho.2 with ⟨rfl, _⟩ | ⟨g, cap, cur, rfl, _, hgb', _⟩
  · exact .inl rfl
  · refine .inr fun e' => ?_
    obtain ⟨o, ho', hc⟩ := (hr g (by simpa [Value.ownBlock] using e'.symm)).2
    rw [hgb'] at ho'; cases ho'; cases hc

set_option maxRecDepth 100000 in
set_option maxHeartbeats 1000000 in
theorem all_range {u2 u3 u4 u5 u6 u7 u10 u11 u12 u13 u14 u15 u16 u17 u18 u19 u20 u21 u22 u23 u24 u25 u26 u27 u28 u29 u30 u31 u32 u33 u34 u35 u36 u37 u38 u39 u40 u41 u42 u43 u44 u45 u46 u47 u48 u49 u50 u51 u52 u53 u54 u55 u56 u57 u58 u59 : Value} {a : Option Addr} {n c P gb : Nat} {name : ByteArray} (S : Nat → ByteArray) (mb kk : Nat) (ga : Option Addr) (gc : Nat) (D d : DataW Unit) (W w : World) (hn : n ≤ 1024) (hsz : name.size ≤ maxLen)
    (hb : Below w.heap.size w W) (hS : Strs w a n S) (cm : W.cell? ⟨P, 11, none⟩ = some (.map (some mb))) (hown : W.ownsMap Yba.prog 9 slElem mb kk D) (hE : slElem (.slice ga n gc) = some (d, [])) (hat : ∀ z, D.atKey (.string name.data.toList) z = d)
    (rows : ∀ i, i < n → ∃ g, ga = some ⟨g, 0, none⟩ ∧ g < gb ∧ W.cell? ⟨g, i, none⟩ = some (.string (S i))) (hP : P < gb) (hmb : mb < gb) (hg0 : w.heap.size ≤ gb) (hbox : Boxed W gb 22 (.slice none 0 0)) :
    Code.wp Yba.prog (sndN 7 (Yba.f3.body.getD .skip)) (okPost <| bodyPostM Fence.wide 3 Yba.prog Yba.f3 fun e w' => e = .returned (.bool true) ∧ Below w.heap.size w w') { tmps := ((Value.string name) :: (Value.slice a n c) :: u2 :: u3 :: u4 :: u5 :: u6 :: u7 :: (Value.pointer (some ⟨P, 0, none⟩)) :: (Value.pointer (some ⟨gb, 0, none⟩)) :: u10 :: u11 :: u12 :: u13 :: u14 :: u15 :: u16 :: u17 :: u18 :: u19 :: u20 :: u21 :: u22 :: u23 :: u24 :: u25 :: u26 :: u27 :: u28 :: u29 :: u30 :: u31 :: u32 :: u33 :: u34 :: u35 :: u36 :: u37 :: u38 :: u39 :: u40 :: u41 :: u42 :: u43 :: u44 :: u45 :: u46 :: u47 :: u48 :: u49 :: u50 :: u51 :: u52 :: u53 :: u54 :: u55 :: u56 :: u57 :: u58 :: u59 :: ([] : List Value)).toArray, defers := [] } W := by
  have hgl := hbox.lt
  have hge := hb.size
  obtain ⟨W2, hW2⟩ : ∃ W2, W2 = (W.alloc (.cells #[.pointer (some ⟨P, 0, none⟩)] 24)).alloc (.cells #[.string name] 9) := ⟨_, rfl⟩
  have s2 : W2.heap.size = W.heap.size + 2 := by rw [hW2]; simp
  have hb2 : Below W.heap.size W W2 := by rw [hW2]; exact ((Below.refl _ W).alloc (Nat.le_refl _) _).alloc (by simp) _
  have hSrc : Src W2.heap.size gb gb (W.heap.size + 1) W.heap.size P mb kk n ga gc name S D d W2 := by
    refine ⟨?_, ?_, (hb2.cell (World.block_lt_of_cell? _ _ cm)).trans cm, ownsMap_later hown hb2, hE, hat, fun i hi => ?_, ⟨by omega, by omega, by omega⟩, ⟨by omega, by omega, by omega⟩, ⟨by omega, by omega, by omega⟩, ⟨by omega, by omega, by omega⟩⟩
    · rw [hW2, World.cell?_alloc_at _ _ _ _ (by simp)]; rfl
    · rw [hW2, World.cell?_alloc_past _ _ _ (by simp), World.cell?_alloc_at _ _ _ _ rfl]; rfl
    · obtain ⟨g, e, hg, hc⟩ := rows i hi
      exact ⟨g, e, ⟨by omega, by omega, by omega⟩, (hb2.cell (World.block_lt_of_cell? _ _ hc)).trans hc⟩
  have hstops := all_stops 2 W2.heap.size gb (W.heap.size + 1) W.heap.size P mb kk n (by omega) ga gc name S D d W2 hSrc (by omega) hn hsz
  have hI0 : Inv W2.heap.size gb w W2 [] W2 := ⟨⟨_, (hb2.block gb hgl).trans hbox, World.ownsRow_nil _ _ _ _⟩, ⟨by omega, Nat.le_refl _, fun _ _ _ => rfl⟩, hb.trans (hb2.mono hge)⟩
  have HST := hid hstops
  have HI0 := hid hI0
  have HSrc := hid hSrc
  have HStr := hid hS
  clear hb hS cm hown hE hat rows hb2 hSrc hstops hI0 hbox
  have HW2 := hid hW2
  clear hW2
  refine wp_seq_k (x := fstN 7 (Yba.f3.body.getD .skip)) (y := sndN 8 (Yba.f3.body.getD .skip)) (fun K7 hK7 => ?_)
  simp only [Yba.f3, Option.getD_some, fstN]
  go_wp2_with (go_at_call 6; refine (bearers_any _ _ _).mono ?_; rintro e w1 ⟨rfl, rfl⟩)
  rw [← HW2.out]
  clear HW2
  refine (wpIn_wide (n := 3)).1 ?_
  refine wpIn_rangeFunc_ownG rfl (by omega) (gf := 10) (lb := #[.pointer (some ⟨W.heap.size + 1, 0, none⟩), .pointer (some ⟨W.heap.size, 0, none⟩)]) rfl trivial (enters_of Yba.func10 (by kernel_rfl) rfl)
    HST.out (fun h k => h.trans k) (Kp.put (Nat.le_refl _)) (Below.refl _ _) (fun _ => rfl)
    (Inv W2.heap.size gb w W2) (fun _ _ _ => False) (inv_own (by omega) (by omega)) (fun _ _ _ _ _ hs _ _ => hs) HI0.out
    (fun x => { tmps := ((Value.string name) :: (Value.slice a n c) :: u2 :: u3 :: u4 :: u5 :: u6 :: u7 :: (Value.pointer (some ⟨P, 0, none⟩)) :: (Value.pointer (some ⟨gb, 0, none⟩)) :: (Value.string x) :: u11 :: u12 :: u13 :: u14 :: u15 :: u16 :: u17 :: u18 :: u19 :: u20 :: u21 :: u22 :: u23 :: u24 :: u25 :: u26 :: u27 :: u28 :: u29 :: u30 :: u31 :: u32 :: u33 :: u34 :: u35 :: u36 :: u37 :: (Value.pointer (some ⟨P, 0, none⟩)) :: (Value.string name) :: (Value.func (.func 10) #[] #[.pointer (some ⟨W.heap.size + 1, 0, none⟩), .pointer (some ⟨W.heap.size, 0, none⟩)]) :: (Value.string x) :: u42 :: u43 :: u44 :: u45 :: u46 :: u47 :: u48 :: u49 :: u50 :: u51 :: u52 :: u53 :: u54 :: u55 :: u56 :: u57 :: u58 :: u59 :: ([] : List Value)).toArray, defers := [] }) ?assign ?body ?done ?stop
  case assign =>
    intro l x W K hK
    gi_wp2
    exact hK
  case body =>
    rintro l pre x W3 ⟨⟨v, hv, hrow⟩, ⟨hbs, hkp⟩, hB⟩ hlt
    have hc := hv.cell
    have HV := hid hv
    have HR := hid hrow
    have HKp := hid hkp
    have HB := hid hB
    obtain ⟨k, hk⟩ : ∃ k, k = pre.length := ⟨_, rfl⟩
    have HKk := hid hk
    rw [← hk] at hlt HR
    clear hv hrow hkp hB HST HI0 HSrc HStr hk
    gi_wp2_with (gi_at_builtin; refine wpListIn_app9 W3 rfl (.tmp 42) (.tmp 44) rfl W2.heap.size v k (pre.map Value.string) rfl HR.out x rfl (by omega) hbs ?_; intro g1 cap1 w1 o1 gr1; have HC := hid (collected HV.out HR.out hbs hg0 (by omega) o1 gr1); have hc1 := HC.out.1.cell; have hf1 := HC.out.1.frozen; clear o1 gr1)
    obtain ⟨_, c2, c3, c4, c5, c6⟩ := HC.out
    refine ⟨c4, c5, ⟨_, c2, ?_⟩, ⟨Nat.le_trans hbs c5.1, HKp.out.trans c5⟩, HB.out.trans c6⟩
    have e1 : (pre ++ [x]).length = k + 1 := by rw [HKk.out]; simp
    rw [e1]
    simpa using c3
  case done =>
    rintro E ys W3 hD rfl ⟨⟨v, hv, hrow⟩, ⟨hbs, hkp⟩, hB⟩ hK
    have hs3 := HSrc.out.keep (w' := W3) fun b h1 h2 _ => hkp.2 b h1 h2
    refine hK7 _ _ ?_
    exact all_tail S mb kk ga gc D d W3 w v W2.heap.size hn hsz hB HStr.out hs3.cm hs3.own hs3.hE hs3.hat (fun i hi => by
      obtain ⟨g, e, _, hc⟩ := hs3.rows i hi
      exact ⟨g, 0, e, by simpa using hc⟩) (by omega) hK hv.cell hrow
  case stop =>
    rintro E c pre W _ _ h _
    exact h.elim

end Go.Proofs.Ybulkbyps
