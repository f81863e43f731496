/-
  For LawS3748BFinds: the law's text from the choice of the id on.
-/
import Derived.Test.YbulkbypeFmtFindsAsk
namespace Go.Proofs.YbulkbypeFmt
open Go.RowKit Go.Extern.Stop Go.Stop Go.Extern Go.Maps

set_option maxRecDepth 20000 in
set_option maxHeartbeats 1000000 in
theorem tail30 {u1 u2 u7 u8 u9 u10 u11 u12 u13 u14 u15 u16 u17 u20 u21 u22 u23 u24 u25 u27 u28 u29 u30 u31 u32 u33 u34 u35 u36 u37 u38 u39 u40 u41 u42 u43 u44 u45 u46 u47 u48 u49 u50 u51 u52 u53 u54 u55 u56 u57 u58 u59 u60 u61 u62 u63 u64 u65 u66 u67 u68 u69 u70 u71 u72 u73 u74 u75 u76 u77 u78 u79 u80 u81 u82 u83 u84 u85 u86 u87 u88 u89 u90 u91 u92 u93 u94 u95 u96 u97 u98 u99 u100 u101 u102 u103 u104 u105 u106 u107 u108 u109 u110 u111 u112 u113 u114 u115 u116 u117 u118 u119 u120 u121 u122 u123 u124 u125 u126 u127 u128 u129 u130 u131 u132 u133 u134 u135 u136 u137 u138 u139 u140 u141 u142 u143 u144 u145 u146 u147 u148 u149 u150 u151 u152 u153 u154 u155 u156 u157 u158 u159 u160 u161 u162 u163 u164 u165 u166 u167 u168 u169 u170 u171 u172 u173 u174 u175 u176 u177 u178 u179 u180 u181 u182 u183 u184 u185 u186 u187 u188 u189 u190 u191 u192 u193 u194 u195 u196 u197 u198 u199 u200 u201 u202 u203 u204 u205 u206 u207 u208 u209 u210 u211 u212 u213 u214 u215 u216 u217 u218 u219 u220 u221 u222 u223 u224 u225 u226 u227 u228 u229 u230 u231 u232 u233 u234 : Value} {id : Int} {F : Interp} {a0 : Option Addr} {n cap st mb eb lo : Nat} {js ts : Int} {qt : ByteArray} {tm : Bool} (ID : Nat → Int) (ta : Nat → Option Addr) (tl tc : Nat → Nat) (S : Nat → Nat → ByteArray) (Ef : Nat → Nat) (D : DataW Unit) (wc w : World)
    (hF : F.answers w.tape) (hJ : Jobs w a0 n ID ta tl tc S) (hn : n ≤ 512) (htl : ∀ j, j < n → tl j ≤ 8192) (hBd : Build st mb eb lo n ID tl S n wc Ef D) (hbel : Below w.heap.size w wc) (hj0 : 0 ≤ js) (hj1 : js ≤ 255) (ht0 : 0 ≤ ts) (ht1 : ts ≤ 255) (hwid : (Lit.int .u64 id).wf = true) :
    Code.wp Ybaf.prog (sndN 10 (Ybaf.f3.body.getD .skip)) (bodyPost Ybaf.prog Ybaf.f3 fun e w' => e = .returned (.bool true) ∧ Below w.heap.size w w') ⟨((Value.slice a0 n cap) :: u1 :: u2 :: (Value.int .u8 js) :: (Value.bool tm) :: (Value.string qt) :: (Value.int .u8 ts) :: u7 :: u8 :: u9 :: u10 :: u11 :: u12 :: u13 :: u14 :: u15 :: u16 :: u17 :: (Value.pointer (some ⟨st, 0, none⟩)) :: (Value.slice (some ⟨eb, 0, none⟩) n n) :: u20 :: u21 :: u22 :: u23 :: u24 :: u25 :: (Value.int .u64 id) :: u27 :: u28 :: u29 :: u30 :: u31 :: u32 :: u33 :: u34 :: u35 :: u36 :: u37 :: u38 :: u39 :: u40 :: u41 :: u42 :: u43 :: u44 :: u45 :: u46 :: u47 :: u48 :: u49 :: u50 :: u51 :: u52 :: u53 :: u54 :: u55 :: u56 :: u57 :: u58 :: u59 :: u60 :: u61 :: u62 :: u63 :: u64 :: u65 :: u66 :: u67 :: u68 :: u69 :: u70 :: u71 :: u72 :: u73 :: u74 :: u75 :: u76 :: u77 :: u78 :: u79 :: u80 :: u81 :: u82 :: u83 :: u84 :: u85 :: u86 :: u87 :: u88 :: u89 :: u90 :: u91 :: u92 :: u93 :: u94 :: u95 :: u96 :: u97 :: u98 :: u99 :: u100 :: u101 :: u102 :: u103 :: u104 :: u105 :: u106 :: u107 :: u108 :: u109 :: u110 :: u111 :: u112 :: u113 :: u114 :: u115 :: u116 :: u117 :: u118 :: u119 :: u120 :: u121 :: u122 :: u123 :: u124 :: u125 :: u126 :: u127 :: u128 :: u129 :: u130 :: u131 :: u132 :: u133 :: u134 :: u135 :: u136 :: u137 :: u138 :: u139 :: u140 :: u141 :: u142 :: u143 :: u144 :: u145 :: u146 :: u147 :: u148 :: u149 :: u150 :: u151 :: u152 :: u153 :: u154 :: u155 :: u156 :: u157 :: u158 :: u159 :: u160 :: u161 :: u162 :: u163 :: u164 :: u165 :: u166 :: u167 :: u168 :: u169 :: u170 :: u171 :: u172 :: u173 :: u174 :: u175 :: u176 :: u177 :: u178 :: u179 :: u180 :: u181 :: u182 :: u183 :: u184 :: u185 :: u186 :: u187 :: u188 :: u189 :: u190 :: u191 :: u192 :: u193 :: u194 :: u195 :: u196 :: u197 :: u198 :: u199 :: u200 :: u201 :: u202 :: u203 :: u204 :: u205 :: u206 :: u207 :: u208 :: u209 :: u210 :: u211 :: u212 :: u213 :: u214 :: u215 :: u216 :: u217 :: u218 :: u219 :: u220 :: u221 :: u222 :: u223 :: u224 :: u225 :: u226 :: u227 :: u228 :: u229 :: u230 :: u231 :: u232 :: u233 :: u234 :: ([] : List Value)).toArray, []⟩ wc := by
  have HX := hid (⟨hF, hJ, hn, htl, hBd, hbel⟩ : F.answers w.tape ∧ Jobs w a0 n ID ta tl tc S ∧ n ≤ 512 ∧ (∀ j, j < n → tl j ≤ 8192) ∧ Build st mb eb lo n ID tl S n wc Ef D ∧ Below w.heap.size w wc)
  by_cases hp : 0 < n
  · cases tm
    · obtain ⟨y, hy⟩ : ∃ y : Nat, js % (n : Int) = (y : Int) := ⟨(js % (n : Int)).toNat, by have := Int.emod_nonneg js (b := (n : Int)) (by omega); omega⟩
      have hyx : y < n := by have := Int.emod_lt_of_pos js (b := (n : Int)) (by omega); omega
      obtain ⟨b, off, rfl, hb, c0, c1⟩ := hJ.row y hyx
      have g1 : wc.cell? ⟨b, off + y * 2 + 1, none⟩ = some (.slice (ta y) (tl y) (tc y)) := (hbel.cell hb).trans c1
      have htly := htl y hyx
      have hp' : decide ((0 : Int) < (n : Int)) = true := by simp; omega
      by_cases hq : 0 < tl y
      · have hq' : decide ((0 : Int) < (tl y : Int)) = true := by simp; omega
        obtain ⟨z, hz⟩ : ∃ z : Nat, ts % (tl y : Int) = (z : Int) := ⟨(ts % (tl y : Int)).toNat, by have := Int.emod_nonneg ts (b := (tl y : Int)) (by omega); omega⟩
        have hzt : z < tl y := by have := Int.emod_lt_of_pos ts (b := (tl y : Int)) (by omega); omega
        obtain ⟨tb, to', e1, gt⟩ : ∃ tb to', ta y = some ⟨tb, to', none⟩ ∧ wc.cell? ⟨tb, to' + z, none⟩ = some (.string (S y z)) := by
          rcases hJ.tgt y hyx with ⟨_, h, _⟩ | ⟨ad, e, h, h'⟩
          · omega
          · obtain ⟨tb, to', rfl⟩ := h' z hzt
            have h2 := h z hzt
            have h3 := (hbel.cell (World.block_lt_of_cell? _ _ h2)).trans h2
            exact ⟨tb, to', e, by rw [Addr.add_lit] at h3; exact h3⟩
        rw [e1] at g1
        clear e1 c0 c1 hF hJ htl hBd hbel
        refine wp_seq_k (x := fstN 10 (Ybaf.f3.body.getD .skip)) (y := sndN 11 (Ybaf.f3.body.getD .skip)) (fun K10 hK10 => ?_)
        simp only [Ybaf.f3, Option.getD_some, fstN]
        go_wp2
        refine wp_seq_k (x := fstN 11 (Ybaf.f3.body.getD .skip)) (y := sndN 12 (Ybaf.f3.body.getD .skip)) (fun K11 hK11 => ?_)
        simp only [Ybaf.f3, Option.getD_some, fstN]
        go_wp2
        exact tail35 (F := F) ID ta tl tc S Ef D wc w HX.out.1 HX.out.2.1 HX.out.2.2.1 HX.out.2.2.2.1 HX.out.2.2.2.2.1 hwid HX.out.2.2.2.2.2
      · have hq' : decide ((0 : Int) < (tl y : Int)) = false := by simp; omega
        clear c0 c1 hF hJ htl hBd hbel
        refine wp_seq_k (x := fstN 10 (Ybaf.f3.body.getD .skip)) (y := sndN 11 (Ybaf.f3.body.getD .skip)) (fun K10 hK10 => ?_)
        simp only [Ybaf.f3, Option.getD_some, fstN]
        go_wp2
        refine wp_seq_k (x := fstN 11 (Ybaf.f3.body.getD .skip)) (y := sndN 12 (Ybaf.f3.body.getD .skip)) (fun K11 hK11 => ?_)
        simp only [Ybaf.f3, Option.getD_some, fstN]
        go_wp2
        exact tail35 (F := F) ID ta tl tc S Ef D wc w HX.out.1 HX.out.2.1 HX.out.2.2.1 HX.out.2.2.2.1 HX.out.2.2.2.2.1 hwid HX.out.2.2.2.2.2
    · have hp' : decide ((0 : Int) < (n : Int)) = true := by simp; omega
      clear hF hJ htl hBd hbel
      refine wp_seq_k (x := fstN 10 (Ybaf.f3.body.getD .skip)) (y := sndN 11 (Ybaf.f3.body.getD .skip)) (fun K10 hK10 => ?_)
      simp only [Ybaf.f3, Option.getD_some, fstN]
      go_wp2
      refine wp_seq_k (x := fstN 11 (Ybaf.f3.body.getD .skip)) (y := sndN 12 (Ybaf.f3.body.getD .skip)) (fun K11 hK11 => ?_)
      simp only [Ybaf.f3, Option.getD_some, fstN]
      go_wp2
      exact tail35 (F := F) ID ta tl tc S Ef D wc w HX.out.1 HX.out.2.1 HX.out.2.2.1 HX.out.2.2.2.1 HX.out.2.2.2.2.1 hwid HX.out.2.2.2.2.2
  · have hp' : decide ((0 : Int) < (n : Int)) = false := by simp; omega
    clear hF hJ htl hBd hbel
    cases tm
    · skip
      refine wp_seq_k (x := fstN 10 (Ybaf.f3.body.getD .skip)) (y := sndN 11 (Ybaf.f3.body.getD .skip)) (fun K10 hK10 => ?_)
      simp only [Ybaf.f3, Option.getD_some, fstN]
      go_wp2
      refine wp_seq_k (x := fstN 11 (Ybaf.f3.body.getD .skip)) (y := sndN 12 (Ybaf.f3.body.getD .skip)) (fun K11 hK11 => ?_)
      simp only [Ybaf.f3, Option.getD_some, fstN]
      go_wp2
      exact tail35 (F := F) ID ta tl tc S Ef D wc w HX.out.1 HX.out.2.1 HX.out.2.2.1 HX.out.2.2.2.1 HX.out.2.2.2.2.1 hwid HX.out.2.2.2.2.2
    · skip
      refine wp_seq_k (x := fstN 10 (Ybaf.f3.body.getD .skip)) (y := sndN 11 (Ybaf.f3.body.getD .skip)) (fun K10 hK10 => ?_)
      simp only [Ybaf.f3, Option.getD_some, fstN]
      go_wp2
      refine wp_seq_k (x := fstN 11 (Ybaf.f3.body.getD .skip)) (y := sndN 12 (Ybaf.f3.body.getD .skip)) (fun K11 hK11 => ?_)
      simp only [Ybaf.f3, Option.getD_some, fstN]
      go_wp2
      exact tail35 (F := F) ID ta tl tc S Ef D wc w HX.out.1 HX.out.2.1 HX.out.2.2.1 HX.out.2.2.2.1 HX.out.2.2.2.2.1 hwid HX.out.2.2.2.2.2

set_option maxRecDepth 20000 in
set_option maxHeartbeats 1000000 in
theorem tail27 {u7 u8 u9 u10 u11 u12 u13 u14 u15 u16 u17 u20 u21 u22 u23 u24 u25 u26 u27 u28 u29 u30 u31 u32 u33 u34 u35 u36 u37 u38 u39 u40 u41 u42 u43 u44 u45 u46 u47 u48 u49 u50 u51 u52 u53 u54 u55 u56 u57 u58 u59 u60 u61 u62 u63 u64 u65 u66 u67 u68 u69 u70 u71 u72 u73 u74 u75 u76 u77 u78 u79 u80 u81 u82 u83 u84 u85 u86 u87 u88 u89 u90 u91 u92 u93 u94 u95 u96 u97 u98 u99 u100 u101 u102 u103 u104 u105 u106 u107 u108 u109 u110 u111 u112 u113 u114 u115 u116 u117 u118 u119 u120 u121 u122 u123 u124 u125 u126 u127 u128 u129 u130 u131 u132 u133 u134 u135 u136 u137 u138 u139 u140 u141 u142 u143 u144 u145 u146 u147 u148 u149 u150 u151 u152 u153 u154 u155 u156 u157 u158 u159 u160 u161 u162 u163 u164 u165 u166 u167 u168 u169 u170 u171 u172 u173 u174 u175 u176 u177 u178 u179 u180 u181 u182 u183 u184 u185 u186 u187 u188 u189 u190 u191 u192 u193 u194 u195 u196 u197 u198 u199 u200 u201 u202 u203 u204 u205 u206 u207 u208 u209 u210 u211 u212 u213 u214 u215 u216 u217 u218 u219 u220 u221 u222 u223 u224 u225 u226 u227 u228 u229 u230 u231 u232 u233 u234 : Value} {jm : Bool} {qj : Int} {F : Interp} {a0 : Option Addr} {n cap st mb eb lo : Nat} {js ts : Int} {qt : ByteArray} {tm : Bool} (ID : Nat → Int) (ta : Nat → Option Addr) (tl tc : Nat → Nat) (S : Nat → Nat → ByteArray) (Ef : Nat → Nat) (D : DataW Unit) (wc w : World)
    (hF : F.answers w.tape) (hJ : Jobs w a0 n ID ta tl tc S) (hn : n ≤ 512) (htl : ∀ j, j < n → tl j ≤ 8192) (hBd : Build st mb eb lo n ID tl S n wc Ef D) (hbel : Below w.heap.size w wc) (hj0 : 0 ≤ js) (hj1 : js ≤ 255) (ht0 : 0 ≤ ts) (ht1 : ts ≤ 255) (hqj : (Lit.int .u64 qj).wf = true) :
    Code.wp Ybaf.prog (sndN 8 (Ybaf.f3.body.getD .skip)) (bodyPost Ybaf.prog Ybaf.f3 fun e w' => e = .returned (.bool true) ∧ Below w.heap.size w w') ⟨((Value.slice a0 n cap) :: (Value.bool jm) :: (Value.int .u64 qj) :: (Value.int .u8 js) :: (Value.bool tm) :: (Value.string qt) :: (Value.int .u8 ts) :: u7 :: u8 :: u9 :: u10 :: u11 :: u12 :: u13 :: u14 :: u15 :: u16 :: u17 :: (Value.pointer (some ⟨st, 0, none⟩)) :: (Value.slice (some ⟨eb, 0, none⟩) n n) :: u20 :: u21 :: u22 :: u23 :: u24 :: u25 :: u26 :: u27 :: u28 :: u29 :: u30 :: u31 :: u32 :: u33 :: u34 :: u35 :: u36 :: u37 :: u38 :: u39 :: u40 :: u41 :: u42 :: u43 :: u44 :: u45 :: u46 :: u47 :: u48 :: u49 :: u50 :: u51 :: u52 :: u53 :: u54 :: u55 :: u56 :: u57 :: u58 :: u59 :: u60 :: u61 :: u62 :: u63 :: u64 :: u65 :: u66 :: u67 :: u68 :: u69 :: u70 :: u71 :: u72 :: u73 :: u74 :: u75 :: u76 :: u77 :: u78 :: u79 :: u80 :: u81 :: u82 :: u83 :: u84 :: u85 :: u86 :: u87 :: u88 :: u89 :: u90 :: u91 :: u92 :: u93 :: u94 :: u95 :: u96 :: u97 :: u98 :: u99 :: u100 :: u101 :: u102 :: u103 :: u104 :: u105 :: u106 :: u107 :: u108 :: u109 :: u110 :: u111 :: u112 :: u113 :: u114 :: u115 :: u116 :: u117 :: u118 :: u119 :: u120 :: u121 :: u122 :: u123 :: u124 :: u125 :: u126 :: u127 :: u128 :: u129 :: u130 :: u131 :: u132 :: u133 :: u134 :: u135 :: u136 :: u137 :: u138 :: u139 :: u140 :: u141 :: u142 :: u143 :: u144 :: u145 :: u146 :: u147 :: u148 :: u149 :: u150 :: u151 :: u152 :: u153 :: u154 :: u155 :: u156 :: u157 :: u158 :: u159 :: u160 :: u161 :: u162 :: u163 :: u164 :: u165 :: u166 :: u167 :: u168 :: u169 :: u170 :: u171 :: u172 :: u173 :: u174 :: u175 :: u176 :: u177 :: u178 :: u179 :: u180 :: u181 :: u182 :: u183 :: u184 :: u185 :: u186 :: u187 :: u188 :: u189 :: u190 :: u191 :: u192 :: u193 :: u194 :: u195 :: u196 :: u197 :: u198 :: u199 :: u200 :: u201 :: u202 :: u203 :: u204 :: u205 :: u206 :: u207 :: u208 :: u209 :: u210 :: u211 :: u212 :: u213 :: u214 :: u215 :: u216 :: u217 :: u218 :: u219 :: u220 :: u221 :: u222 :: u223 :: u224 :: u225 :: u226 :: u227 :: u228 :: u229 :: u230 :: u231 :: u232 :: u233 :: u234 :: ([] : List Value)).toArray, []⟩ wc := by
  have HX := hid (⟨hF, hJ, hn, htl, hBd, hbel⟩ : F.answers w.tape ∧ Jobs w a0 n ID ta tl tc S ∧ n ≤ 512 ∧ (∀ j, j < n → tl j ≤ 8192) ∧ Build st mb eb lo n ID tl S n wc Ef D ∧ Below w.heap.size w wc)
  by_cases hp : 0 < n
  · have hp' : decide ((0 : Int) < (n : Int)) = true := by simp; omega
    cases jm
    · obtain ⟨y, hy⟩ : ∃ y : Nat, js % (n : Int) = (y : Int) := ⟨(js % (n : Int)).toNat, by have := Int.emod_nonneg js (b := (n : Int)) (by omega); omega⟩
      have hyx : y < n := by have := Int.emod_lt_of_pos js (b := (n : Int)) (by omega); omega
      obtain ⟨b, off, rfl, hb, c0, c1⟩ := hJ.row y hyx
      have g0 : wc.cell? ⟨b, off + y * 2, none⟩ = some (.int .u64 (ID y)) := (hbel.cell hb).trans c0
      have hwf := hJ.wf y
      clear c0 c1 hF hJ htl hBd hbel
      refine wp_seq_k (x := fstN 8 (Ybaf.f3.body.getD .skip)) (y := sndN 9 (Ybaf.f3.body.getD .skip)) (fun K8 hK8 => ?_)
      simp only [Ybaf.f3, Option.getD_some, fstN]
      go_wp2
      refine wp_seq_k (x := fstN 9 (Ybaf.f3.body.getD .skip)) (y := sndN 10 (Ybaf.f3.body.getD .skip)) (fun K9 hK9 => ?_)
      simp only [Ybaf.f3, Option.getD_some, fstN]
      go_wp2
      exact tail30 (F := F) ID ta tl tc S Ef D wc w HX.out.1 HX.out.2.1 HX.out.2.2.1 HX.out.2.2.2.1 HX.out.2.2.2.2.1 HX.out.2.2.2.2.2 hj0 hj1 ht0 ht1 hwf
    · clear hF hJ htl hBd hbel
      refine wp_seq_k (x := fstN 8 (Ybaf.f3.body.getD .skip)) (y := sndN 9 (Ybaf.f3.body.getD .skip)) (fun K8 hK8 => ?_)
      simp only [Ybaf.f3, Option.getD_some, fstN]
      go_wp2
      refine wp_seq_k (x := fstN 9 (Ybaf.f3.body.getD .skip)) (y := sndN 10 (Ybaf.f3.body.getD .skip)) (fun K9 hK9 => ?_)
      simp only [Ybaf.f3, Option.getD_some, fstN]
      go_wp2
      exact tail30 (F := F) ID ta tl tc S Ef D wc w HX.out.1 HX.out.2.1 HX.out.2.2.1 HX.out.2.2.2.1 HX.out.2.2.2.2.1 HX.out.2.2.2.2.2 hj0 hj1 ht0 ht1 hqj
  · have hp' : decide ((0 : Int) < (n : Int)) = false := by simp; omega
    clear hF hJ htl hBd hbel
    cases jm
    · skip
      refine wp_seq_k (x := fstN 8 (Ybaf.f3.body.getD .skip)) (y := sndN 9 (Ybaf.f3.body.getD .skip)) (fun K8 hK8 => ?_)
      simp only [Ybaf.f3, Option.getD_some, fstN]
      go_wp2
      refine wp_seq_k (x := fstN 9 (Ybaf.f3.body.getD .skip)) (y := sndN 10 (Ybaf.f3.body.getD .skip)) (fun K9 hK9 => ?_)
      simp only [Ybaf.f3, Option.getD_some, fstN]
      go_wp2
      exact tail30 (F := F) ID ta tl tc S Ef D wc w HX.out.1 HX.out.2.1 HX.out.2.2.1 HX.out.2.2.2.1 HX.out.2.2.2.2.1 HX.out.2.2.2.2.2 hj0 hj1 ht0 ht1 hqj
    · skip
      refine wp_seq_k (x := fstN 8 (Ybaf.f3.body.getD .skip)) (y := sndN 9 (Ybaf.f3.body.getD .skip)) (fun K8 hK8 => ?_)
      simp only [Ybaf.f3, Option.getD_some, fstN]
      go_wp2
      refine wp_seq_k (x := fstN 9 (Ybaf.f3.body.getD .skip)) (y := sndN 10 (Ybaf.f3.body.getD .skip)) (fun K9 hK9 => ?_)
      simp only [Ybaf.f3, Option.getD_some, fstN]
      go_wp2
      exact tail30 (F := F) ID ta tl tc S Ef D wc w HX.out.1 HX.out.2.1 HX.out.2.2.1 HX.out.2.2.2.1 HX.out.2.2.2.2.1 HX.out.2.2.2.2.2 hj0 hj1 ht0 ht1 hqj

end Go.Proofs.YbulkbypeFmt
