/-
  For LawS3748BFinds: the law's text behind the call of task: which job, which target, the answer.
-/
import Derived.Test.YbulkbypeFmtFindsBuild
import Derived.LaidEqlPtr
namespace Go.Proofs.YbulkbypeFmt
open Go.RowKit Go.Extern.Stop Go.Stop Go.Extern Go.Maps

/-- The text behind the first n statements. -/
def sndN : Nat → Code → Code
  | 0, c => c
  | n + 1, .seq _ b => sndN n b
  | _ + 1, c => c

/-- The statement behind the first n. -/
def fstN : Nat → Code → Code
  | 0, .seq a _ => a
  | n + 1, .seq _ b => fstN n b
  | _, c => c

theorem info38' : (Ybaf.prog.info? 38).isSome = true := by kernel_rfl
/-- A task's state held against itself. -/
theorem eql49 (a : Addr) (w : World) : (binOp .eql 49 (.pointer (some a)) (.pointer (some a))).run Ybaf.prog w = .ok (.bool true) w := by
  obtain ⟨j, hj⟩ := Option.isSome_iff_exists.1 info38'
  exact run_eql_ptr_same w a Ybaf.underlying49 hj
attribute [local go_sem] eql49

/-- The last job with that id, as the law reckons it: -1 where there is none. -/
def lastI (ID : Nat → Int) (id : Int) : Nat → Int
  | 0 => -1
  | y + 1 => if ID y = id then (y : Int) else lastI ID id y
theorem lastI_none {ID : Nat → Int} {id : Int} {n : Nat} (h : ∀ j, j < n → ID j ≠ id) : lastI ID id n = -1 := by
  induction n with
  | zero => rfl
  | succ n ih => rw [lastI, if_neg (h n (by omega))]; exact ih fun j hj => h j (by omega)
theorem lastI_some {ID : Nat → Int} {id : Int} {n K : Nat} (hK : K < n) (e : ID K = id) (h : ∀ j, K < j → j < n → ID j ≠ id) : lastI ID id n = K := by
  induction n with
  | zero => omega
  | succ n ih =>
    by_cases hn : K = n
    · subst hn; rw [lastI, if_pos e]
    · rw [lastI, if_neg (h n (by omega) (by omega))]
      exact ih (by omega) fun j a b => h j a (by omega)
theorem lastI_bd (ID : Nat → Int) (id : Int) (n : Nat) : -1 ≤ lastI ID id n ∧ lastI ID id n ≤ n := by
  induction n with
  | zero => simp [lastI]
  | succ n ih => rw [lastI]; split <;> omega

set_option maxRecDepth 20000 in
set_option maxHeartbeats 1000000 in
theorem tail37_nojob {u1 u2 u3 u4 u5 u6 u7 u8 u9 u10 u11 u12 u13 u14 u15 u16 u17 u18 u20 u21 u22 u23 u24 u25 u28 u29 u32 u33 u34 u35 u36 u37 u38 u39 u40 u41 u42 u43 u44 u45 u46 u47 u48 u49 u50 u51 u52 u53 u54 u55 u56 u57 u58 u59 u60 u61 u62 u63 u64 u65 u66 u67 u68 u69 u70 u71 u72 u73 u74 u75 u76 u77 u78 u79 u80 u81 u82 u83 u84 u85 u86 u87 u88 u89 u90 u91 u92 u93 u94 u95 u96 u97 u98 u99 u100 u101 u102 u103 u104 u105 u106 u107 u108 u109 u110 u111 u112 u113 u114 u115 u116 u117 u118 u119 u120 u121 u122 u123 u124 u125 u126 u127 u128 u129 u130 u131 u132 u133 u134 u135 u136 u137 u138 u139 u140 u141 u142 u143 u144 u145 u146 u147 u148 u149 u150 u151 u152 u153 u154 u155 u156 u157 u158 u159 u160 u161 u162 u163 u164 u165 u166 u167 u168 u169 u170 u171 u172 u173 u174 u175 u176 u177 u178 u179 u180 u181 u182 u183 u184 u185 u186 u187 u188 u189 u190 u191 u192 u193 u194 u195 u196 u197 u198 u199 u200 u201 u202 u203 u204 u205 u206 u207 u208 u209 u210 u211 u212 u213 u214 u215 u216 u217 u218 u219 u220 u221 u222 u223 u224 u225 u226 u227 u228 u229 u230 u231 u232 u233 u234 : Value} {ea : Addr} {a0 : Option Addr} {n cap eb : Nat} {id : Int} {t : ByteArray} (ID : Nat → Int) (ta : Nat → Option Addr) (tl tc : Nat → Nat) (wc w : World) (B : Nat)
    (hr : ∀ j, j < n → ∃ b off, a0 = some ⟨b, off, none⟩ ∧ wc.cell? ⟨b, off + j * 2, none⟩ = some (.int .u64 (ID j)) ∧ wc.cell? ⟨b, off + j * 2 + 1, none⟩ = some (.slice (ta j) (tl j) (tc j))) (hn : n ≤ 512)
    (hno : ∀ j, j < n → ID j ≠ id) (hbel : Below B w wc) :
    Code.wp Ybaf.prog (sndN 14 (Ybaf.f3.body.getD .skip)) (bodyPost Ybaf.prog Ybaf.f3 fun e w' => e = .returned (.bool true) ∧ Below B w w') ⟨((Value.slice a0 n cap) :: u1 :: u2 :: u3 :: u4 :: u5 :: u6 :: u7 :: u8 :: u9 :: u10 :: u11 :: u12 :: u13 :: u14 :: u15 :: u16 :: u17 :: u18 :: (Value.slice (some ⟨eb, 0, none⟩) n n) :: u20 :: u21 :: u22 :: u23 :: u24 :: u25 :: (Value.int .u64 id) :: (Value.string t) :: u28 :: u29 :: (Value.pointer none) :: (Value.iface 61 (.pointer (some ea))) :: u32 :: u33 :: u34 :: u35 :: u36 :: u37 :: u38 :: u39 :: u40 :: u41 :: u42 :: u43 :: u44 :: u45 :: u46 :: u47 :: u48 :: u49 :: u50 :: u51 :: u52 :: u53 :: u54 :: u55 :: u56 :: u57 :: u58 :: u59 :: u60 :: u61 :: u62 :: u63 :: u64 :: u65 :: u66 :: u67 :: u68 :: u69 :: u70 :: u71 :: u72 :: u73 :: u74 :: u75 :: u76 :: u77 :: u78 :: u79 :: u80 :: u81 :: u82 :: u83 :: u84 :: u85 :: u86 :: u87 :: u88 :: u89 :: u90 :: u91 :: u92 :: u93 :: u94 :: u95 :: u96 :: u97 :: u98 :: u99 :: u100 :: u101 :: u102 :: u103 :: u104 :: u105 :: u106 :: u107 :: u108 :: u109 :: u110 :: u111 :: u112 :: u113 :: u114 :: u115 :: u116 :: u117 :: u118 :: u119 :: u120 :: u121 :: u122 :: u123 :: u124 :: u125 :: u126 :: u127 :: u128 :: u129 :: u130 :: u131 :: u132 :: u133 :: u134 :: u135 :: u136 :: u137 :: u138 :: u139 :: u140 :: u141 :: u142 :: u143 :: u144 :: u145 :: u146 :: u147 :: u148 :: u149 :: u150 :: u151 :: u152 :: u153 :: u154 :: u155 :: u156 :: u157 :: u158 :: u159 :: u160 :: u161 :: u162 :: u163 :: u164 :: u165 :: u166 :: u167 :: u168 :: u169 :: u170 :: u171 :: u172 :: u173 :: u174 :: u175 :: u176 :: u177 :: u178 :: u179 :: u180 :: u181 :: u182 :: u183 :: u184 :: u185 :: u186 :: u187 :: u188 :: u189 :: u190 :: u191 :: u192 :: u193 :: u194 :: u195 :: u196 :: u197 :: u198 :: u199 :: u200 :: u201 :: u202 :: u203 :: u204 :: u205 :: u206 :: u207 :: u208 :: u209 :: u210 :: u211 :: u212 :: u213 :: u214 :: u215 :: u216 :: u217 :: u218 :: u219 :: u220 :: u221 :: u222 :: u223 :: u224 :: u225 :: u226 :: u227 :: u228 :: u229 :: u230 :: u231 :: u232 :: u233 :: u234 :: ([] : List Value)).toArray, []⟩ wc := by
  have HR := hid hr
  have HN := hid hno
  clear hr hno
  simp only [Ybaf.f3, Option.getD_some, sndN]
  go_wp2
  go_loop [32, 160] (fun v i => ∃ y : Nat, y ≤ n ∧ i = .int .i64 y ∧ v = .int .i64 (lastI ID id y)) (fun _ i => n - (intOf i).toNat)
  case atStart => exact ⟨0, by omega, rfl, rfl⟩
  case round =>
    obtain ⟨y, hy, rfl, rfl⟩ := hrel
    have hbd := lastI_bd ID id y
    by_cases hyn : y < n
    · obtain ⟨b, off, rfl, c0, _⟩ := HR.out y hyn
      by_cases hh : ID y = id
      · have hb : (ID y == id) = true := by simp [hh]
        have HE : Hid (lastI ID id (y + 1) = (y : Int)) := by rw [Hid, lastI, if_pos hh]
        clear hh hbd
        go_wp2
        go_round
        case rel => exact ⟨y + 1, by omega, by go_num, by rw [HE.out]⟩
        case measure => simp [intOf]; omega
      · have hb : (ID y == id) = false := by simpa using hh
        have HE : Hid (lastI ID id (y + 1) = lastI ID id y) := by rw [Hid, lastI, if_neg hh]
        clear hh
        go_wp2
        go_round
        case rel => exact ⟨y + 1, by omega, by go_num, by rw [HE.out]⟩
        case measure => simp [intOf]; omega
    · obtain rfl : y = n := by omega
      rw [lastI_none HN.out]
      go_wp2
      go_ret
      exact ⟨rfl, hbel⟩

set_option maxRecDepth 20000 in
set_option maxHeartbeats 1000000 in
theorem tail37_notarget {u1 u2 u3 u4 u5 u6 u7 u8 u9 u10 u11 u12 u13 u14 u15 u16 u17 u18 u20 u21 u22 u23 u24 u25 u28 u29 u32 u33 u34 u35 u36 u37 u38 u39 u40 u41 u42 u43 u44 u45 u46 u47 u48 u49 u50 u51 u52 u53 u54 u55 u56 u57 u58 u59 u60 u61 u62 u63 u64 u65 u66 u67 u68 u69 u70 u71 u72 u73 u74 u75 u76 u77 u78 u79 u80 u81 u82 u83 u84 u85 u86 u87 u88 u89 u90 u91 u92 u93 u94 u95 u96 u97 u98 u99 u100 u101 u102 u103 u104 u105 u106 u107 u108 u109 u110 u111 u112 u113 u114 u115 u116 u117 u118 u119 u120 u121 u122 u123 u124 u125 u126 u127 u128 u129 u130 u131 u132 u133 u134 u135 u136 u137 u138 u139 u140 u141 u142 u143 u144 u145 u146 u147 u148 u149 u150 u151 u152 u153 u154 u155 u156 u157 u158 u159 u160 u161 u162 u163 u164 u165 u166 u167 u168 u169 u170 u171 u172 u173 u174 u175 u176 u177 u178 u179 u180 u181 u182 u183 u184 u185 u186 u187 u188 u189 u190 u191 u192 u193 u194 u195 u196 u197 u198 u199 u200 u201 u202 u203 u204 u205 u206 u207 u208 u209 u210 u211 u212 u213 u214 u215 u216 u217 u218 u219 u220 u221 u222 u223 u224 u225 u226 u227 u228 u229 u230 u231 u232 u233 u234 : Value} {ea : Addr} {a0 : Option Addr} {n cap eb K : Nat} {id : Int} {t : ByteArray} (ID : Nat → Int) (ta : Nat → Option Addr) (tl tc : Nat → Nat) (S : Nat → ByteArray) (wc w : World) (B : Nat)
    (hr : ∀ j, j < n → ∃ b off, a0 = some ⟨b, off, none⟩ ∧ wc.cell? ⟨b, off + j * 2, none⟩ = some (.int .u64 (ID j)) ∧ wc.cell? ⟨b, off + j * 2 + 1, none⟩ = some (.slice (ta j) (tl j) (tc j))) (hn : n ≤ 512)
    (hK : K < n) (hid' : ID K = id) (hlast : ∀ j, K < j → j < n → ID j ≠ id) (htl : tl K ≤ 8192)
    (htg : ∀ i, i < tl K → ∃ tb to', ta K = some ⟨tb, to', none⟩ ∧ wc.cell? ⟨tb, to' + i, none⟩ = some (.string (S i))) (hno : ∀ i, i < tl K → (S i).toList ≠ t.toList) (hbel : Below B w wc) :
    Code.wp Ybaf.prog (sndN 14 (Ybaf.f3.body.getD .skip)) (bodyPost Ybaf.prog Ybaf.f3 fun e w' => e = .returned (.bool true) ∧ Below B w w') ⟨((Value.slice a0 n cap) :: u1 :: u2 :: u3 :: u4 :: u5 :: u6 :: u7 :: u8 :: u9 :: u10 :: u11 :: u12 :: u13 :: u14 :: u15 :: u16 :: u17 :: u18 :: (Value.slice (some ⟨eb, 0, none⟩) n n) :: u20 :: u21 :: u22 :: u23 :: u24 :: u25 :: (Value.int .u64 id) :: (Value.string t) :: u28 :: u29 :: (Value.pointer none) :: (Value.iface 61 (.pointer (some ea))) :: u32 :: u33 :: u34 :: u35 :: u36 :: u37 :: u38 :: u39 :: u40 :: u41 :: u42 :: u43 :: u44 :: u45 :: u46 :: u47 :: u48 :: u49 :: u50 :: u51 :: u52 :: u53 :: u54 :: u55 :: u56 :: u57 :: u58 :: u59 :: u60 :: u61 :: u62 :: u63 :: u64 :: u65 :: u66 :: u67 :: u68 :: u69 :: u70 :: u71 :: u72 :: u73 :: u74 :: u75 :: u76 :: u77 :: u78 :: u79 :: u80 :: u81 :: u82 :: u83 :: u84 :: u85 :: u86 :: u87 :: u88 :: u89 :: u90 :: u91 :: u92 :: u93 :: u94 :: u95 :: u96 :: u97 :: u98 :: u99 :: u100 :: u101 :: u102 :: u103 :: u104 :: u105 :: u106 :: u107 :: u108 :: u109 :: u110 :: u111 :: u112 :: u113 :: u114 :: u115 :: u116 :: u117 :: u118 :: u119 :: u120 :: u121 :: u122 :: u123 :: u124 :: u125 :: u126 :: u127 :: u128 :: u129 :: u130 :: u131 :: u132 :: u133 :: u134 :: u135 :: u136 :: u137 :: u138 :: u139 :: u140 :: u141 :: u142 :: u143 :: u144 :: u145 :: u146 :: u147 :: u148 :: u149 :: u150 :: u151 :: u152 :: u153 :: u154 :: u155 :: u156 :: u157 :: u158 :: u159 :: u160 :: u161 :: u162 :: u163 :: u164 :: u165 :: u166 :: u167 :: u168 :: u169 :: u170 :: u171 :: u172 :: u173 :: u174 :: u175 :: u176 :: u177 :: u178 :: u179 :: u180 :: u181 :: u182 :: u183 :: u184 :: u185 :: u186 :: u187 :: u188 :: u189 :: u190 :: u191 :: u192 :: u193 :: u194 :: u195 :: u196 :: u197 :: u198 :: u199 :: u200 :: u201 :: u202 :: u203 :: u204 :: u205 :: u206 :: u207 :: u208 :: u209 :: u210 :: u211 :: u212 :: u213 :: u214 :: u215 :: u216 :: u217 :: u218 :: u219 :: u220 :: u221 :: u222 :: u223 :: u224 :: u225 :: u226 :: u227 :: u228 :: u229 :: u230 :: u231 :: u232 :: u233 :: u234 :: ([] : List Value)).toArray, []⟩ wc := by
  have HR := hid hr
  have HL := hid (lastI_some hK hid' hlast)
  have HT := hid htg
  have HN := hid hno
  clear hr hno htg hlast hid'
  simp only [Ybaf.f3, Option.getD_some, sndN]
  go_wp2
  go_loop [32, 160] (fun v i => ∃ y : Nat, y ≤ n ∧ i = .int .i64 y ∧ v = .int .i64 (lastI ID id y)) (fun _ i => n - (intOf i).toNat)
  case atStart => exact ⟨0, by omega, rfl, rfl⟩
  case round =>
    obtain ⟨y, hy, rfl, rfl⟩ := hrel
    have hbd := lastI_bd ID id y
    by_cases hyn : y < n
    · obtain ⟨b, off, rfl, c0, _⟩ := HR.out y hyn
      by_cases hh : ID y = id
      · have hb : (ID y == id) = true := by simp [hh]
        have HE : Hid (lastI ID id (y + 1) = (y : Int)) := by rw [Hid, lastI, if_pos hh]
        clear hh hbd
        go_wp2
        go_round
        case rel => exact ⟨y + 1, by omega, by go_num, by rw [HE.out]⟩
        case measure => simp [intOf]; omega
      · have hb : (ID y == id) = false := by simpa using hh
        have HE : Hid (lastI ID id (y + 1) = lastI ID id y) := by rw [Hid, lastI, if_neg hh]
        clear hh
        go_wp2
        go_round
        case rel => exact ⟨y + 1, by omega, by go_num, by rw [HE.out]⟩
        case measure => simp [intOf]; omega
    · obtain rfl : y = n := by omega
      rw [HL.out]
      obtain ⟨b, off, rfl, c0, c1⟩ := HR.out K hK
      clear hbd c0
      go_wp2
      go_loop [34, 180] (fun v c => ∃ z : Nat, z ≤ tl K ∧ c = .int .i64 z ∧ v = .int .i64 (-1)) (fun _ c => tl K - (intOf c).toNat)
      case atStart => exact ⟨0, by omega, rfl, rfl⟩
      case round =>
        obtain ⟨z, hz, rfl, rfl⟩ := hrel
        by_cases hzn : z < tl K
        · obtain ⟨tb, to', e1, ht⟩ := HT.out z hzn
          have hb : ((S z).toList == t.toList) = false := by simpa using HN.out z hzn
          rw [e1] at c1 ⊢
          clear e1
          go_wp2
          go_round
          case rel => exact ⟨z + 1, by omega, by go_num, rfl⟩
          case measure => simp [intOf]; omega
        · go_wp2
          go_ret
          exact ⟨rfl, hbel⟩

set_option maxRecDepth 20000 in
set_option maxHeartbeats 1000000 in
theorem tail37_hit {u1 u2 u3 u4 u5 u6 u7 u8 u9 u10 u11 u12 u13 u14 u15 u16 u17 u18 u20 u21 u22 u23 u24 u25 u28 u29 u32 u33 u34 u35 u36 u37 u38 u39 u40 u41 u42 u43 u44 u45 u46 u47 u48 u49 u50 u51 u52 u53 u54 u55 u56 u57 u58 u59 u60 u61 u62 u63 u64 u65 u66 u67 u68 u69 u70 u71 u72 u73 u74 u75 u76 u77 u78 u79 u80 u81 u82 u83 u84 u85 u86 u87 u88 u89 u90 u91 u92 u93 u94 u95 u96 u97 u98 u99 u100 u101 u102 u103 u104 u105 u106 u107 u108 u109 u110 u111 u112 u113 u114 u115 u116 u117 u118 u119 u120 u121 u122 u123 u124 u125 u126 u127 u128 u129 u130 u131 u132 u133 u134 u135 u136 u137 u138 u139 u140 u141 u142 u143 u144 u145 u146 u147 u148 u149 u150 u151 u152 u153 u154 u155 u156 u157 u158 u159 u160 u161 u162 u163 u164 u165 u166 u167 u168 u169 u170 u171 u172 u173 u174 u175 u176 u177 u178 u179 u180 u181 u182 u183 u184 u185 u186 u187 u188 u189 u190 u191 u192 u193 u194 u195 u196 u197 u198 u199 u200 u201 u202 u203 u204 u205 u206 u207 u208 u209 u210 u211 u212 u213 u214 u215 u216 u217 u218 u219 u220 u221 u222 u223 u224 u225 u226 u227 u228 u229 u230 u231 u232 u233 u234 : Value} {a0 : Option Addr} {n cap eb K I E tk : Nat} {id : Int} {t : ByteArray} (ID : Nat → Int) (ta : Nat → Option Addr) (tl tc : Nat → Nat) (S : Nat → ByteArray) (wc w : World) (B : Nat)
    (hr : ∀ j, j < n → ∃ b off, a0 = some ⟨b, off, none⟩ ∧ wc.cell? ⟨b, off + j * 2, none⟩ = some (.int .u64 (ID j)) ∧ wc.cell? ⟨b, off + j * 2 + 1, none⟩ = some (.slice (ta j) (tl j) (tc j))) (hn : n ≤ 512)
    (hK : K < n) (hid' : ID K = id) (hlast : ∀ j, K < j → j < n → ID j ≠ id) (htl : tl K ≤ 8192)
    (htg : ∀ i, i < tl K → ∃ tb to', ta K = some ⟨tb, to', none⟩ ∧ wc.cell? ⟨tb, to' + i, none⟩ = some (.string (S i))) (hI : I < tl K) (hhit : (S I).toList = t.toList) (hno : ∀ i, i < I → (S i).toList ≠ t.toList)
    (k1 : wc.cell? ⟨eb, K, none⟩ = some (.pointer (some ⟨E, 0, none⟩))) (k2 : wc.cell? ⟨E, 17, none⟩ = some (.slice (some ⟨tk, 0, none⟩) (tl K) (tl K)))
    (k3 : wc.cell? ⟨tk, I * 3, none⟩ = some (.int .i64 I)) (k4 : wc.cell? ⟨tk, I * 3 + 1, none⟩ = some (.int .i64 0)) (k5 : wc.cell? ⟨tk, I * 3 + 2, none⟩ = some (.bool false)) (hbel : Below B w wc) :
    Code.wp Ybaf.prog (sndN 14 (Ybaf.f3.body.getD .skip)) (bodyPost Ybaf.prog Ybaf.f3 fun e w' => e = .returned (.bool true) ∧ Below B w w') ⟨((Value.slice a0 n cap) :: u1 :: u2 :: u3 :: u4 :: u5 :: u6 :: u7 :: u8 :: u9 :: u10 :: u11 :: u12 :: u13 :: u14 :: u15 :: u16 :: u17 :: u18 :: (Value.slice (some ⟨eb, 0, none⟩) n n) :: u20 :: u21 :: u22 :: u23 :: u24 :: u25 :: (Value.int .u64 id) :: (Value.string t) :: u28 :: u29 :: (Value.pointer (some ⟨tk, I * 3, none⟩)) :: (Value.nilIface) :: u32 :: u33 :: u34 :: u35 :: u36 :: u37 :: u38 :: u39 :: u40 :: u41 :: u42 :: u43 :: u44 :: u45 :: u46 :: u47 :: u48 :: u49 :: u50 :: u51 :: u52 :: u53 :: u54 :: u55 :: u56 :: u57 :: u58 :: u59 :: u60 :: u61 :: u62 :: u63 :: u64 :: u65 :: u66 :: u67 :: u68 :: u69 :: u70 :: u71 :: u72 :: u73 :: u74 :: u75 :: u76 :: u77 :: u78 :: u79 :: u80 :: u81 :: u82 :: u83 :: u84 :: u85 :: u86 :: u87 :: u88 :: u89 :: u90 :: u91 :: u92 :: u93 :: u94 :: u95 :: u96 :: u97 :: u98 :: u99 :: u100 :: u101 :: u102 :: u103 :: u104 :: u105 :: u106 :: u107 :: u108 :: u109 :: u110 :: u111 :: u112 :: u113 :: u114 :: u115 :: u116 :: u117 :: u118 :: u119 :: u120 :: u121 :: u122 :: u123 :: u124 :: u125 :: u126 :: u127 :: u128 :: u129 :: u130 :: u131 :: u132 :: u133 :: u134 :: u135 :: u136 :: u137 :: u138 :: u139 :: u140 :: u141 :: u142 :: u143 :: u144 :: u145 :: u146 :: u147 :: u148 :: u149 :: u150 :: u151 :: u152 :: u153 :: u154 :: u155 :: u156 :: u157 :: u158 :: u159 :: u160 :: u161 :: u162 :: u163 :: u164 :: u165 :: u166 :: u167 :: u168 :: u169 :: u170 :: u171 :: u172 :: u173 :: u174 :: u175 :: u176 :: u177 :: u178 :: u179 :: u180 :: u181 :: u182 :: u183 :: u184 :: u185 :: u186 :: u187 :: u188 :: u189 :: u190 :: u191 :: u192 :: u193 :: u194 :: u195 :: u196 :: u197 :: u198 :: u199 :: u200 :: u201 :: u202 :: u203 :: u204 :: u205 :: u206 :: u207 :: u208 :: u209 :: u210 :: u211 :: u212 :: u213 :: u214 :: u215 :: u216 :: u217 :: u218 :: u219 :: u220 :: u221 :: u222 :: u223 :: u224 :: u225 :: u226 :: u227 :: u228 :: u229 :: u230 :: u231 :: u232 :: u233 :: u234 :: ([] : List Value)).toArray, []⟩ wc := by
  have HR := hid hr
  have HL := hid (lastI_some hK hid' hlast)
  have HT := hid htg
  have HN := hid hno
  have HH := hid hhit
  clear hr hno htg hlast hid' hhit
  simp only [Ybaf.f3, Option.getD_some, sndN]
  go_wp2
  go_loop [32, 160] (fun v i => ∃ y : Nat, y ≤ n ∧ i = .int .i64 y ∧ v = .int .i64 (lastI ID id y)) (fun _ i => n - (intOf i).toNat)
  case atStart => exact ⟨0, by omega, rfl, rfl⟩
  case round =>
    obtain ⟨y, hy, rfl, rfl⟩ := hrel
    have hbd := lastI_bd ID id y
    by_cases hyn : y < n
    · obtain ⟨b, off, rfl, c0, _⟩ := HR.out y hyn
      by_cases hh : ID y = id
      · have hb : (ID y == id) = true := by simp [hh]
        have HE : Hid (lastI ID id (y + 1) = (y : Int)) := by rw [Hid, lastI, if_pos hh]
        clear hh hbd
        go_wp2
        go_round
        case rel => exact ⟨y + 1, by omega, by go_num, by rw [HE.out]⟩
        case measure => simp [intOf]; omega
      · have hb : (ID y == id) = false := by simpa using hh
        have HE : Hid (lastI ID id (y + 1) = lastI ID id y) := by rw [Hid, lastI, if_neg hh]
        clear hh
        go_wp2
        go_round
        case rel => exact ⟨y + 1, by omega, by go_num, by rw [HE.out]⟩
        case measure => simp [intOf]; omega
    · obtain rfl : y = n := by omega
      rw [HL.out]
      obtain ⟨b, off, rfl, c0, c1⟩ := HR.out K hK
      clear hbd c0
      go_wp2
      go_loop [34, 180] (fun v c => ∃ z : Nat, z ≤ I ∧ c = .int .i64 z ∧ v = .int .i64 (-1)) (fun _ c => tl K - (intOf c).toNat)
      case atStart => exact ⟨0, by omega, rfl, rfl⟩
      case round =>
        obtain ⟨z, hz, rfl, rfl⟩ := hrel
        obtain ⟨tb, to', e1, ht⟩ := HT.out z (by omega)
        rw [e1] at c1 ⊢
        clear e1
        by_cases hzn : z < I
        · have hb : ((S z).toList == t.toList) = false := by simpa using HN.out z hzn
          go_wp2
          go_round
          case rel => exact ⟨z + 1, by omega, by go_num, rfl⟩
          case measure => simp [intOf]; omega
        · obtain rfl : z = I := by omega
          have hb : ((S z).toList == t.toList) = true := by simpa using HH.out
          go_wp2
          go_ret
          exact ⟨rfl, hbel⟩

end Go.Proofs.YbulkbypeFmt
