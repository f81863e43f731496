/-
  For LawS3748BFinds: the law's text from the query on: the call of task, then the check.
-/
import Derived.Test.YbulkbypeFmtFindsTail
namespace Go.Proofs.YbulkbypeFmt
open Go.RowKit Go.Extern.Stop Go.Stop Go.Extern Go.Maps

/-- What held behind the filling holds behind the call of task. -/
theorem kept_call {wc w2 : World} {o : Obj} (hb : Below (wc.alloc o).heap.size (wc.alloc o) w2) {a : Addr} {v : Value} (h : wc.cell? a = some v) : w2.cell? a = some v := by
  have hlt := World.block_lt_of_cell? _ _ h
  rw [hb.cell (by simp; omega), World.cell?_alloc_lt _ _ _ hlt]
  exact h

theorem zero48 (w : World) : (zeroValue 48).run Ybaf.prog w = .ok (.agg #[.int .u8 0, .int .u64 0, .string ⟨#[]⟩, .int .i64 0, .int .i64 0, .int .i64 0, .int .u32 0, .int .u64 0, .string ⟨#[]⟩, .slice none 0 0, .slice none 0 0, .int .i64 0, .int .i64 0, .string ⟨#[]⟩, .int .i64 0, .int .i64 0, .int .i64 0, .slice none 0 0]) w := by kernel_rfl
attribute [local go_sem] zero48

theorem info48 : (Ybaf.prog.info? 48).map (·.size) = some 18 := by kernel_rfl

theorem setRow_new (w : World) (old cs : Array Value) (t : TypeId) : (w.alloc (.cells old t)).setRow w.heap.size cs = w.alloc (.cells cs t) := by
  simp only [World.setRow, World.alloc]
  congr 1
  apply Array.ext_getElem?
  intro i
  rw [Array.getElem?_modify, Array.getElem?_push, Array.getElem?_push]
  by_cases h : i = w.heap.size
  · subst h; simp
  · simp [h]
    intro e
    exact absurd e.symm h

/-- The query is stored into its new block, whole. -/
theorem wpList_store48 {ops : Array Oper} {rest : List Oper} {o : Oper} {a : Act} {Q : Exit → Act → World → Prop} (w : World) (hgd : o.guard = none) (x y : Operand) (ho : o.op = .store 48 x y)
    (old cells : Array Value) (hx : a.eval x = .pointer (some ⟨w.heap.size, 0, none⟩)) (hy : a.eval y = .agg cells) (h0 : old.size = 18) (h2 : cells.size = 18) (h1 : cells.all (·.oneCell') = true)
    (h : wpList Ybaf.prog ops Q rest (a.put o.dst undef) (w.alloc (.cells cells 48))) : wpList Ybaf.prog ops Q (o :: rest) a (w.alloc (.cells old 48)) := by
  refine wpList_store_row hgd 48 x y ho w.heap.size cells hx hy 48 old (heap_alloc_new w _) (by rw [info48, h2]) (by rw [h0, h2]) h1 ?_
  rw [setRow_new]
  exact h

/-- The query is loaded, whole. -/
theorem wpList_load48 {ops : Array Oper} {rest : List Oper} {o : Oper} {a : Act} {Q : Exit → Act → World → Prop} (w : World) (hgd : o.guard = none) (x : Operand) (ho : o.op = .load 48 x)
    (cells : Array Value) (hx : a.eval x = .pointer (some ⟨w.heap.size, 0, none⟩)) (h2 : cells.size = 18)
    (h : wpList Ybaf.prog ops Q rest (a.put o.dst (.agg cells)) (w.alloc (.cells cells 48))) : wpList Ybaf.prog ops Q (o :: rest) a (w.alloc (.cells cells 48)) :=
  wpList_load_row hgd 48 x ho w.heap.size hx 48 cells (0, 0) _ (heap_alloc_new w _) Ybaf.underlying48 rfl (by rw [info48, h2]) h

set_option maxRecDepth 20000 in
set_option maxHeartbeats 1000000 in
/-- The query is made. -/
theorem step35 {u1 u2 u3 u4 u5 u6 u7 u8 u9 u10 u11 u12 u13 u14 u15 u16 u17 u20 u21 u22 u23 u24 u25 u28 u29 u30 u31 u32 u33 u34 u35 u36 u37 u38 u39 u40 u41 u42 u43 u44 u45 u46 u47 u48 u49 u50 u51 u52 u53 u54 u55 u56 u57 u58 u59 u60 u61 u62 u63 u64 u65 u66 u67 u68 u69 u70 u71 u72 u73 u74 u75 u76 u77 u78 u79 u80 u81 u82 u83 u84 u85 u86 u87 u88 u89 u90 u91 u92 u93 u94 u95 u96 u97 u98 u99 u100 u101 u102 u103 u104 u105 u106 u107 u108 u109 u110 u111 u112 u113 u114 u115 u116 u117 u118 u119 u120 u121 u122 u123 u124 u125 u126 u127 u128 u129 u130 u131 u132 u133 u134 u135 u136 u137 u138 u139 u140 u141 u142 u143 u144 u145 u146 u147 u148 u149 u150 u151 u152 u153 u154 u155 u156 u157 u158 u159 u160 u161 u162 u163 u164 u165 u166 u167 u168 u169 u170 u171 u172 u173 u174 u175 u176 u177 u178 u179 u180 u181 u182 u183 u184 u185 u186 u187 u188 u189 u190 u191 u192 u193 u194 u195 u196 u197 u198 u199 u200 u201 u202 u203 u204 u205 u206 u207 u208 u209 u210 u211 u212 u213 u214 u215 u216 u217 u218 u219 u220 u221 u222 u223 u224 u225 u226 u227 u228 u229 u230 u231 u232 u233 u234 : Value} {a0 : Option Addr} {n cap st eb : Nat} {id : Int} {t : ByteArray} (wc : World) (K : Act → World → Prop) (Q : Exit → Act → World → Prop) (h : K ⟨((Value.slice a0 n cap) :: u1 :: u2 :: u3 :: u4 :: u5 :: u6 :: u7 :: u8 :: u9 :: u10 :: u11 :: u12 :: u13 :: u14 :: u15 :: u16 :: u17 :: (Value.pointer (some ⟨st, 0, none⟩)) :: (Value.slice (some ⟨eb, 0, none⟩) n n) :: u20 :: u21 :: u22 :: u23 :: u24 :: u25 :: (Value.int .u64 id) :: (Value.string t) :: u28 :: (Value.pointer (some ⟨wc.heap.size, 0, none⟩)) :: u30 :: u31 :: u32 :: u33 :: u34 :: u35 :: u36 :: u37 :: u38 :: u39 :: u40 :: u41 :: u42 :: u43 :: u44 :: u45 :: u46 :: u47 :: u48 :: u49 :: u50 :: u51 :: u52 :: u53 :: u54 :: u55 :: u56 :: u57 :: u58 :: u59 :: u60 :: u61 :: u62 :: u63 :: u64 :: u65 :: u66 :: u67 :: u68 :: u69 :: u70 :: u71 :: u72 :: u73 :: u74 :: u75 :: u76 :: u77 :: u78 :: u79 :: u80 :: u81 :: u82 :: u83 :: u84 :: u85 :: u86 :: u87 :: u88 :: u89 :: u90 :: u91 :: u92 :: u93 :: u94 :: u95 :: u96 :: u97 :: u98 :: u99 :: u100 :: u101 :: u102 :: u103 :: u104 :: u105 :: u106 :: u107 :: u108 :: u109 :: u110 :: u111 :: u112 :: u113 :: u114 :: u115 :: u116 :: u117 :: u118 :: u119 :: u120 :: u121 :: u122 :: u123 :: u124 :: u125 :: u126 :: u127 :: u128 :: u129 :: u130 :: u131 :: u132 :: u133 :: u134 :: u135 :: u136 :: u137 :: u138 :: u139 :: u140 :: u141 :: u142 :: u143 :: u144 :: u145 :: u146 :: u147 :: u148 :: (Value.int .u64 id) :: (Value.string t) :: (Value.agg (qCells id t)) :: u152 :: u153 :: u154 :: u155 :: u156 :: u157 :: u158 :: u159 :: u160 :: u161 :: u162 :: u163 :: u164 :: u165 :: u166 :: u167 :: u168 :: u169 :: u170 :: u171 :: u172 :: u173 :: u174 :: u175 :: u176 :: u177 :: u178 :: u179 :: u180 :: u181 :: u182 :: u183 :: u184 :: u185 :: u186 :: u187 :: u188 :: u189 :: u190 :: u191 :: u192 :: u193 :: u194 :: u195 :: u196 :: u197 :: u198 :: u199 :: u200 :: u201 :: u202 :: u203 :: u204 :: u205 :: u206 :: u207 :: u208 :: u209 :: u210 :: u211 :: u212 :: u213 :: u214 :: u215 :: u216 :: u217 :: u218 :: u219 :: u220 :: u221 :: u222 :: u223 :: u224 :: u225 :: u226 :: u227 :: u228 :: u229 :: u230 :: u231 :: u232 :: u233 :: u234 :: ([] : List Value)).toArray, []⟩ (wc.alloc (.cells (qCells id t) 48))) :
    Code.wp Ybaf.prog (fstN 12 (Ybaf.f3.body.getD .skip)) (Exit.then K Q) ⟨((Value.slice a0 n cap) :: u1 :: u2 :: u3 :: u4 :: u5 :: u6 :: u7 :: u8 :: u9 :: u10 :: u11 :: u12 :: u13 :: u14 :: u15 :: u16 :: u17 :: (Value.pointer (some ⟨st, 0, none⟩)) :: (Value.slice (some ⟨eb, 0, none⟩) n n) :: u20 :: u21 :: u22 :: u23 :: u24 :: u25 :: (Value.int .u64 id) :: (Value.string t) :: u28 :: u29 :: u30 :: u31 :: u32 :: u33 :: u34 :: u35 :: u36 :: u37 :: u38 :: u39 :: u40 :: u41 :: u42 :: u43 :: u44 :: u45 :: u46 :: u47 :: u48 :: u49 :: u50 :: u51 :: u52 :: u53 :: u54 :: u55 :: u56 :: u57 :: u58 :: u59 :: u60 :: u61 :: u62 :: u63 :: u64 :: u65 :: u66 :: u67 :: u68 :: u69 :: u70 :: u71 :: u72 :: u73 :: u74 :: u75 :: u76 :: u77 :: u78 :: u79 :: u80 :: u81 :: u82 :: u83 :: u84 :: u85 :: u86 :: u87 :: u88 :: u89 :: u90 :: u91 :: u92 :: u93 :: u94 :: u95 :: u96 :: u97 :: u98 :: u99 :: u100 :: u101 :: u102 :: u103 :: u104 :: u105 :: u106 :: u107 :: u108 :: u109 :: u110 :: u111 :: u112 :: u113 :: u114 :: u115 :: u116 :: u117 :: u118 :: u119 :: u120 :: u121 :: u122 :: u123 :: u124 :: u125 :: u126 :: u127 :: u128 :: u129 :: u130 :: u131 :: u132 :: u133 :: u134 :: u135 :: u136 :: u137 :: u138 :: u139 :: u140 :: u141 :: u142 :: u143 :: u144 :: u145 :: u146 :: u147 :: u148 :: u149 :: u150 :: u151 :: u152 :: u153 :: u154 :: u155 :: u156 :: u157 :: u158 :: u159 :: u160 :: u161 :: u162 :: u163 :: u164 :: u165 :: u166 :: u167 :: u168 :: u169 :: u170 :: u171 :: u172 :: u173 :: u174 :: u175 :: u176 :: u177 :: u178 :: u179 :: u180 :: u181 :: u182 :: u183 :: u184 :: u185 :: u186 :: u187 :: u188 :: u189 :: u190 :: u191 :: u192 :: u193 :: u194 :: u195 :: u196 :: u197 :: u198 :: u199 :: u200 :: u201 :: u202 :: u203 :: u204 :: u205 :: u206 :: u207 :: u208 :: u209 :: u210 :: u211 :: u212 :: u213 :: u214 :: u215 :: u216 :: u217 :: u218 :: u219 :: u220 :: u221 :: u222 :: u223 :: u224 :: u225 :: u226 :: u227 :: u228 :: u229 :: u230 :: u231 :: u232 :: u233 :: u234 :: ([] : List Value)).toArray, []⟩ wc := by
  simp only [Ybaf.f3, Option.getD_some, fstN]
  go_wp2_with (refine wpList_store48 wc rfl (.tmp 29) (.tmp 151) rfl _ (qCells id t) rfl rfl rfl rfl rfl ?_)
  exact h

set_option maxRecDepth 20000 in
set_option maxHeartbeats 1000000 in
theorem tail35 {u1 u2 u3 u4 u5 u6 u7 u8 u9 u10 u11 u12 u13 u14 u15 u16 u17 u20 u21 u22 u23 u24 u25 u28 u29 u30 u31 u32 u33 u34 u35 u36 u37 u38 u39 u40 u41 u42 u43 u44 u45 u46 u47 u48 u49 u50 u51 u52 u53 u54 u55 u56 u57 u58 u59 u60 u61 u62 u63 u64 u65 u66 u67 u68 u69 u70 u71 u72 u73 u74 u75 u76 u77 u78 u79 u80 u81 u82 u83 u84 u85 u86 u87 u88 u89 u90 u91 u92 u93 u94 u95 u96 u97 u98 u99 u100 u101 u102 u103 u104 u105 u106 u107 u108 u109 u110 u111 u112 u113 u114 u115 u116 u117 u118 u119 u120 u121 u122 u123 u124 u125 u126 u127 u128 u129 u130 u131 u132 u133 u134 u135 u136 u137 u138 u139 u140 u141 u142 u143 u144 u145 u146 u147 u148 u149 u150 u151 u152 u153 u154 u155 u156 u157 u158 u159 u160 u161 u162 u163 u164 u165 u166 u167 u168 u169 u170 u171 u172 u173 u174 u175 u176 u177 u178 u179 u180 u181 u182 u183 u184 u185 u186 u187 u188 u189 u190 u191 u192 u193 u194 u195 u196 u197 u198 u199 u200 u201 u202 u203 u204 u205 u206 u207 u208 u209 u210 u211 u212 u213 u214 u215 u216 u217 u218 u219 u220 u221 u222 u223 u224 u225 u226 u227 u228 u229 u230 u231 u232 u233 u234 : Value} {F : Interp} {a0 : Option Addr} {n cap st mb eb lo : Nat} {id : Int} {t : ByteArray} (ID : Nat → Int) (ta : Nat → Option Addr) (tl tc : Nat → Nat) (S : Nat → Nat → ByteArray) (Ef : Nat → Nat) (D : DataW Unit) (wc w : World)
    (hF : F.answers w.tape) (hJ : Jobs w a0 n ID ta tl tc S) (hn : n ≤ 512) (htl : ∀ j, j < n → tl j ≤ 8192) (hBd : Build st mb eb lo n ID tl S n wc Ef D) (hwid : (Lit.int .u64 id).wf = true) (hbel : Below w.heap.size w wc) :
    Code.wp Ybaf.prog (sndN 12 (Ybaf.f3.body.getD .skip)) (bodyPost Ybaf.prog Ybaf.f3 fun e w' => e = .returned (.bool true) ∧ Below w.heap.size w w') ⟨((Value.slice a0 n cap) :: u1 :: u2 :: u3 :: u4 :: u5 :: u6 :: u7 :: u8 :: u9 :: u10 :: u11 :: u12 :: u13 :: u14 :: u15 :: u16 :: u17 :: (Value.pointer (some ⟨st, 0, none⟩)) :: (Value.slice (some ⟨eb, 0, none⟩) n n) :: u20 :: u21 :: u22 :: u23 :: u24 :: u25 :: (Value.int .u64 id) :: (Value.string t) :: u28 :: u29 :: u30 :: u31 :: u32 :: u33 :: u34 :: u35 :: u36 :: u37 :: u38 :: u39 :: u40 :: u41 :: u42 :: u43 :: u44 :: u45 :: u46 :: u47 :: u48 :: u49 :: u50 :: u51 :: u52 :: u53 :: u54 :: u55 :: u56 :: u57 :: u58 :: u59 :: u60 :: u61 :: u62 :: u63 :: u64 :: u65 :: u66 :: u67 :: u68 :: u69 :: u70 :: u71 :: u72 :: u73 :: u74 :: u75 :: u76 :: u77 :: u78 :: u79 :: u80 :: u81 :: u82 :: u83 :: u84 :: u85 :: u86 :: u87 :: u88 :: u89 :: u90 :: u91 :: u92 :: u93 :: u94 :: u95 :: u96 :: u97 :: u98 :: u99 :: u100 :: u101 :: u102 :: u103 :: u104 :: u105 :: u106 :: u107 :: u108 :: u109 :: u110 :: u111 :: u112 :: u113 :: u114 :: u115 :: u116 :: u117 :: u118 :: u119 :: u120 :: u121 :: u122 :: u123 :: u124 :: u125 :: u126 :: u127 :: u128 :: u129 :: u130 :: u131 :: u132 :: u133 :: u134 :: u135 :: u136 :: u137 :: u138 :: u139 :: u140 :: u141 :: u142 :: u143 :: u144 :: u145 :: u146 :: u147 :: u148 :: u149 :: u150 :: u151 :: u152 :: u153 :: u154 :: u155 :: u156 :: u157 :: u158 :: u159 :: u160 :: u161 :: u162 :: u163 :: u164 :: u165 :: u166 :: u167 :: u168 :: u169 :: u170 :: u171 :: u172 :: u173 :: u174 :: u175 :: u176 :: u177 :: u178 :: u179 :: u180 :: u181 :: u182 :: u183 :: u184 :: u185 :: u186 :: u187 :: u188 :: u189 :: u190 :: u191 :: u192 :: u193 :: u194 :: u195 :: u196 :: u197 :: u198 :: u199 :: u200 :: u201 :: u202 :: u203 :: u204 :: u205 :: u206 :: u207 :: u208 :: u209 :: u210 :: u211 :: u212 :: u213 :: u214 :: u215 :: u216 :: u217 :: u218 :: u219 :: u220 :: u221 :: u222 :: u223 :: u224 :: u225 :: u226 :: u227 :: u228 :: u229 :: u230 :: u231 :: u232 :: u233 :: u234 :: ([] : List Value)).toArray, []⟩ wc := by
  have hge := hbel.size
  have hFc : F.answers (wc.alloc (.cells (qCells id t) 48)).tape := by rw [World.tape_alloc, hbel.tape]; exact hF
  have cst : (wc.alloc (.cells (qCells id t) 48)).cell? ⟨st, 1, none⟩ = some (.map (some mb)) := by
    rw [World.cell?_alloc_lt _ _ _ (World.block_lt_of_cell? _ _ hBd.cst)]
    exact hBd.cst
  have hown := hBd.own.alloc (.cells (qCells id t) 48)
  have row : ∀ w2, Below (wc.alloc (.cells (qCells id t) 48)).heap.size (wc.alloc (.cells (qCells id t) 48)) w2 → ∀ j, j < n → ∃ b off, a0 = some ⟨b, off, none⟩ ∧ w2.cell? ⟨b, off + j * 2, none⟩ = some (.int .u64 (ID j)) ∧ w2.cell? ⟨b, off + j * 2 + 1, none⟩ = some (.slice (ta j) (tl j) (tc j)) := fun w2 hb2 j hj => by
    obtain ⟨b, off, e, hb, c0, c1⟩ := hJ.row j hj
    exact ⟨b, off, e, kept_call hb2 ((hbel.cell hb).trans c0), kept_call hb2 ((hbel.cell hb).trans c1)⟩
  have bel2 : ∀ w2, Below (wc.alloc (.cells (qCells id t) 48)).heap.size (wc.alloc (.cells (qCells id t) 48)) w2 → Below w.heap.size w w2 := fun w2 hb2 =>
    (hbel.alloc hge _).trans (hb2.mono (by simp; omega))
  have HR := hid row
  have HB2 := hid bel2
  have HF := hid hFc
  have HC := hid cst
  have HO := hid hown
  by_cases hex : ∃ j, j < n ∧ ID j = id
  · obtain ⟨K, hK, hKid, hlast⟩ := last_hit hex
    obtain ⟨hhas, hat⟩ := hBd.mp.hit id K hK hKid hlast
    obtain ⟨ga, gc, tk, hE⟩ := hBd.ok K hK
    have h10 : (wc.alloc (.cells (qCells id t) 48)).cell? ⟨Ef K, 10, none⟩ = some (.slice ga (tl K) gc) := by
      rw [World.cell?_alloc_lt _ _ _ (World.block_lt_of_cell? _ _ hE.c10)]
      exact hE.c10
    have h17 : (wc.alloc (.cells (qCells id t) 48)).cell? ⟨Ef K, 17, none⟩ = some (.slice (some ⟨tk, 0, none⟩) (tl K) (tl K)) := by
      rw [World.cell?_alloc_lt _ _ _ (World.block_lt_of_cell? _ _ hE.c17)]
      exact hE.c17
    have hcl : ∀ i, i < tl K → ∃ cb, ga = some ⟨cb, 0, none⟩ ∧ (wc.alloc (.cells (qCells id t) 48)).cell? ⟨cb, i, none⟩ = some (.string (S K i)) := fun i hi => by
      obtain ⟨cb, e, _, h⟩ := hE.tg i hi
      exact ⟨cb, e, by rw [World.cell?_alloc_lt _ _ _ (World.block_lt_of_cell? _ _ h)]; exact h⟩
    have htg : ∀ w2, Below (wc.alloc (.cells (qCells id t) 48)).heap.size (wc.alloc (.cells (qCells id t) 48)) w2 → ∀ i, i < tl K → ∃ tb to', ta K = some ⟨tb, to', none⟩ ∧ w2.cell? ⟨tb, to' + i, none⟩ = some (.string (S K i)) := fun w2 hb2 i hi => by
      rcases hJ.tgt K hK with ⟨_, h, _⟩ | ⟨ad, e, h, h'⟩
      · omega
      · obtain ⟨tb, to', rfl⟩ := h' i hi
        have h2 := h i hi
        have h3 := kept_call hb2 ((hbel.cell (World.block_lt_of_cell? _ _ h2)).trans h2)
        exact ⟨tb, to', e, by rw [Addr.add_lit] at h3; exact h3⟩
    have htlK := htl K hK
    by_cases hex2 : ∃ i, i < tl K ∧ (S K i).toList = t.toList
    · obtain ⟨I, hI, hhit, hfirst⟩ := least_hit hex2
      have HT := hid (task_hit st mb n (Ef K) (tl K) gc tk I ga (S K) D id t _ HC.out HO.out hwid hhas hat h10 h17 htlK hcl hI hhit hfirst)
      have HTg := hid htg
      have HE := hid hE
      have HEn := hid (hBd.ents K hK)
      have HLa := hid hlast
      have HKi := hid hKid
      have HHi := hid hhit
      have HFi := hid hfirst
      clear row bel2 hFc cst hown hex hex2 hhas hat h10 h17 hcl htg hE hBd hJ hF hbel htl hlast hKid hhit hfirst
      refine wp_seq_k (x := fstN 12 (Ybaf.f3.body.getD .skip)) (y := sndN 13 (Ybaf.f3.body.getD .skip)) (fun K1 hK1 => ?_)
      refine step35 wc K1 _ (hK1 _ _ ?_)
      refine wp_seq_k (x := fstN 13 (Ybaf.f3.body.getD .skip)) (y := sndN 14 (Ybaf.f3.body.getD .skip)) (fun K2 hK2 => ?_)
      simp only [Ybaf.f3, Option.getD_some, fstN]
      go_wp2_with (first | (go_at_call 5; refine HT.out.mono ?_; rintro e w2 ⟨rfl, hb2⟩) | (refine wpList_load48 wc rfl (.tmp 29) rfl (qCells id t) rfl rfl ?_))
      exact tail37_hit (K := K) (I := I) (E := Ef K) (tk := tk) (ID := ID) (ta := ta) (tl := tl) (tc := tc) (S := S K) (wc := w2) (w := w) (B := w.heap.size) (hr := HR.out w2 hb2) (hn := hn) (hK := hK) (hid' := HKi.out) (hlast := HLa.out) (htl := htlK) (htg := HTg.out w2 hb2) (hI := hI) (hhit := HHi.out) (hno := HFi.out)
        (k1 := kept_call hb2 HEn.out) (k2 := kept_call hb2 HE.out.c17) (k3 := kept_call hb2 (HE.out.t0 I hI)) (k4 := kept_call hb2 (HE.out.t1 I hI)) (k5 := kept_call hb2 (HE.out.t2 I hI)) (hbel := HB2.out w2 hb2)
    · have hno : ∀ i, i < tl K → (S K i).toList ≠ t.toList := fun i hi e => hex2 ⟨i, hi, e⟩
      have HT := hid (task_nohit F st mb n (Ef K) (tl K) gc ga (S K) D id t _ HF.out HC.out HO.out hwid hhas hat h10 htlK hcl hno)
      have HTg := hid htg
      have HLa := hid hlast
      have HKi := hid hKid
      have HN := hid hno
      clear row bel2 hFc cst hown hex hex2 hhas hat h10 h17 hcl htg hE hBd hJ hF hbel htl hlast hKid hno
      refine wp_seq_k (x := fstN 12 (Ybaf.f3.body.getD .skip)) (y := sndN 13 (Ybaf.f3.body.getD .skip)) (fun K1 hK1 => ?_)
      refine step35 wc K1 _ (hK1 _ _ ?_)
      refine wp_seq_k (x := fstN 13 (Ybaf.f3.body.getD .skip)) (y := sndN 14 (Ybaf.f3.body.getD .skip)) (fun K2 hK2 => ?_)
      simp only [Ybaf.f3, Option.getD_some, fstN]
      go_wp2_with (first | (go_at_call 5; refine HT.out.mono ?_; rintro e w2 ⟨ea, rfl, hb2⟩) | (refine wpList_load48 wc rfl (.tmp 29) rfl (qCells id t) rfl rfl ?_))
      exact tail37_notarget (K := K) (ID := ID) (ta := ta) (tl := tl) (tc := tc) (S := S K) (wc := w2) (w := w) (B := w.heap.size) (hr := HR.out w2 hb2) (hn := hn) (hK := hK) (hid' := HKi.out) (hlast := HLa.out) (htl := htlK) (htg := HTg.out w2 hb2) (hno := HN.out) (hbel := HB2.out w2 hb2)
  · have hno : ∀ j, j < n → ID j ≠ id := fun j hj e => hex ⟨j, hj, e⟩
    have HT := hid (task_miss F st mb n D id t _ HF.out HC.out HO.out hwid (hBd.mp.miss id hno))
    have HN := hid hno
    clear row bel2 hFc cst hown hex hBd hJ hF hbel htl hno
    refine wp_seq_k (x := fstN 12 (Ybaf.f3.body.getD .skip)) (y := sndN 13 (Ybaf.f3.body.getD .skip)) (fun K1 hK1 => ?_)
    refine step35 wc K1 _ (hK1 _ _ ?_)
    refine wp_seq_k (x := fstN 13 (Ybaf.f3.body.getD .skip)) (y := sndN 14 (Ybaf.f3.body.getD .skip)) (fun K2 hK2 => ?_)
    simp only [Ybaf.f3, Option.getD_some, fstN]
    go_wp2_with (first | (go_at_call 5; refine HT.out.mono ?_; rintro e w2 ⟨ea, rfl, hb2⟩) | (refine wpList_load48 wc rfl (.tmp 29) rfl (qCells id t) rfl rfl ?_))
    exact tail37_nojob (ID := ID) (ta := ta) (tl := tl) (tc := tc) (wc := w2) (w := w) (B := w.heap.size) (hr := HR.out w2 hb2) (hn := hn) (hno := HN.out) (hbel := HB2.out w2 hb2)

end Go.Proofs.YbulkbypeFmt
