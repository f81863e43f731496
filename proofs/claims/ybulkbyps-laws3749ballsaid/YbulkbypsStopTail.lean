/-
  For LawS3749BStop: the law's text behind the filling of the providers' map.
-/
import Derived.Test.YbulkbypsStopParts
namespace Go.Proofs.Ybulkbyps
open Go.RowKit Go.Maps

/-- A row that is owned, as a slice of strings. -/
theorem owned_strs {w : World} {base g cap : Nat} {L : List ByteArray} (h : w.ownsRow base 9 1 (.slice (some ⟨g, 0, none⟩) L.length cap) L.length (L.map Value.string)) (M : List ByteArray) (hp : L <+: M) : Strs w (some ⟨g, 0, none⟩) L.length (fun i => M.getD i ByteArray.empty) := fun i hi => by
  refine ⟨g, 0, rfl, ?_⟩
  rw [Nat.zero_add, World.ownsRow.cellAt h i (by omega)]
  obtain ⟨t, rfl⟩ := hp
  simp [List.getElem?_append, hi]

theorem owned_slice {w : World} {base n : Nat} {v : Value} {xs : List Value} (h : w.ownsRow base 9 1 v n xs) (hn : 0 < n) : ∃ g cap, v = .slice (some ⟨g, 0, none⟩) n cap := by
  rcases h.2 with ⟨_, h0⟩ | ⟨g, cap, cur, hv, _⟩
  · omega
  · exact ⟨g, cap, hv⟩

theorem ownsRow_later {w w' : World} {base n : Nat} {v : Value} {xs : List Value} (h : w.ownsRow base 9 1 v n xs) (hb : Below w.heap.size w w') : w'.ownsRow base 9 1 v n xs := by
  refine ⟨h.1, ?_⟩
  rcases h.2 with hn | ⟨g, cap, cur, rfl, h1, hgg, rest⟩
  · exact .inl hn
  · exact .inr ⟨g, cap, cur, rfl, h1, (hb.block g (Array.getElem?_eq_some_iff.1 hgg).1).trans hgg, rest⟩

set_option maxRecDepth 20000 in
set_option maxHeartbeats 1000000 in
theorem stop_tail {u2 u3 u4 u5 u6 u9 u10 u11 u12 u13 u14 u15 u16 u17 u18 u19 u20 u21 u22 u23 u24 u25 u26 u27 u28 u29 u30 u31 u32 u33 u34 u35 u36 u37 u38 u39 u40 u41 u42 u43 u44 u45 u46 u47 u48 u49 u50 u51 : Value} {a : Option Addr} {n c tb P : Nat} {name : ByteArray} (S : Nat → ByteArray) (limit mb kk : Nat) (ga : Option Addr) (gc : Nat) (D d : DataW Unit) (W w : World) (hn : n ≤ 1024) (h1 : 1 ≤ limit) (h2 : limit ≤ 11) (hsz : name.size ≤ maxLen)
    (hb : Below w.heap.size w W) (hS : Strs w a n S) (ht : W.cell? ⟨tb, 0, none⟩ = some (.int .i64 limit)) (cm : W.cell? ⟨P, 11, none⟩ = some (.map (some mb))) (hown : W.ownsMap Yba.prog 9 slElem mb kk D) (hE : slElem (.slice ga n gc) = some (d, [])) (hat : ∀ z, D.atKey (.string name.data.toList) z = d)
    (rows : ∀ i, i < n → ∃ g, ga = some ⟨g, 0, none⟩ ∧ W.cell? ⟨g, i, none⟩ = some (.string (S i))) :
    Code.wp Yba.prog (sndN 6 (Yba.f4.body.getD .skip)) (bodyPost Yba.prog Yba.f4 fun e w' => e = .returned (.bool true) ∧ Below w.heap.size w w') ⟨((Value.string name) :: (Value.slice a n c) :: u2 :: u3 :: u4 :: u5 :: u6 :: (Value.pointer (some ⟨tb, 0, none⟩)) :: (Value.pointer (some ⟨P, 0, none⟩)) :: u9 :: u10 :: u11 :: u12 :: u13 :: u14 :: u15 :: u16 :: u17 :: u18 :: u19 :: u20 :: u21 :: u22 :: u23 :: u24 :: u25 :: u26 :: u27 :: u28 :: u29 :: u30 :: u31 :: u32 :: u33 :: u34 :: u35 :: u36 :: u37 :: u38 :: u39 :: u40 :: u41 :: u42 :: u43 :: u44 :: u45 :: u46 :: u47 :: u48 :: u49 :: u50 :: u51 :: ([] : List Value)).toArray, []⟩ W := by
  have ltb : tb < W.heap.size := World.block_lt_of_cell? _ _ ht
  have ltP : P < W.heap.size := World.block_lt_of_cell? _ _ cm
  have ltm := hown.lt
  have hge := hb.size
  obtain ⟨H, hH⟩ : ∃ H, H = W.heap.size := ⟨_, rfl⟩
  obtain ⟨W5, hW5⟩ : ∃ W5, W5 = ((((W.alloc (.cells #[.slice none 0 0] 22)).alloc (.cells #[.bool false] 4)).alloc (.cells #[.bool false] 4)).alloc (.cells #[.pointer (some ⟨P, 0, none⟩)] 24)).alloc (.cells #[.string name] 9) := ⟨_, rfl⟩
  have hold : ∀ b, b < H → W5.heap[b]? = W.heap[b]? := fun b hb => by
    rw [hW5, Below.heap_alloc _ _ _ (by simp; omega), Below.heap_alloc _ _ _ (by simp; omega), Below.heap_alloc _ _ _ (by simp; omega), Below.heap_alloc _ _ _ (by simp; omega), Below.heap_alloc _ _ _ (by omega)]
  have s5 : W5.heap.size = H + 5 := by rw [hW5, hH]; simp
  have hb5 : Below w.heap.size w W5 := by rw [hW5]; exact ((((hb.alloc hge _).alloc (by simp; omega) _).alloc (by simp; omega) _).alloc (by simp; omega) _).alloc (by simp; omega) _
  have hLay : Lay w.heap.size (H + 5) (H + 1) (H + 1 + 1) H tb := ⟨by omega, by omega, by omega, by omega, by omega, by omega, by omega, by omega, by omega, by omega, by omega⟩
  have hSt : St (H + 5) (H + 1) (H + 1 + 1) H tb limit [] false W5 := by
    refine ⟨?_, ?_, ?_, ⟨.slice none 0 0, ?_, World.ownsRow_nil _ _ _ _⟩, ?_, cell_block ht (hold tb (by omega)), by omega⟩
    · rw [hW5, World.cell?_alloc_past _ _ _ (by simp; omega), World.cell?_alloc_past _ _ _ (by simp; omega), World.cell?_alloc_past _ _ _ (by simp; omega), World.cell?_alloc_at _ _ _ _ (by simp; omega)]; rfl
    · rw [hW5, World.frozen?_alloc_past _ _ _ (by simp; omega), World.frozen?_alloc_past _ _ _ (by simp; omega), World.frozen?_alloc_past _ _ _ (by simp; omega), World.frozen?_alloc_at _ _ _ _ (by simp; omega)]
    · rw [hW5, World.cell?_alloc_past _ _ _ (by simp; omega), World.cell?_alloc_past _ _ _ (by simp; omega), World.cell?_alloc_at _ _ _ _ (by simp; omega)]; rfl
    · rw [hW5, World.cell?_alloc_past _ _ _ (by simp; omega), World.cell?_alloc_past _ _ _ (by simp; omega), World.cell?_alloc_past _ _ _ (by simp; omega), World.cell?_alloc_past _ _ _ (by simp; omega), World.cell?_alloc_at _ _ _ _ (by omega)]; rfl
    · rw [hW5, World.frozen?_alloc_past _ _ _ (by simp; omega), World.frozen?_alloc_past _ _ _ (by simp; omega), World.frozen?_alloc_past _ _ _ (by simp; omega), World.frozen?_alloc_past _ _ _ (by simp; omega), World.frozen?_alloc_at _ _ _ _ (by omega)]
  have hSrc : Src (H + 5) (H + 1) H (H + 1 + 1 + 1 + 1) (H + 1 + 1 + 1) P mb kk n ga gc name S D d W5 := by
    refine ⟨?_, ?_, cell_block cm (hold P (by omega)), ?_, hE, hat, fun i hi => ?_, ⟨by omega, by omega, by omega⟩, ⟨by omega, by omega, by omega⟩, ⟨by omega, by omega, by omega⟩, ⟨by omega, by omega, by omega⟩⟩
    · rw [hW5, World.cell?_alloc_at _ _ _ _ (by simp; omega)]; rfl
    · rw [hW5, World.cell?_alloc_past _ _ _ (by simp; omega), World.cell?_alloc_at _ _ _ _ (by simp; omega)]; rfl
    · obtain ⟨es, clock, e1, e2⟩ := hown
      exact ⟨es, clock, (hold mb (by omega)).trans e1, e2⟩
    · obtain ⟨g, e, hc⟩ := rows i hi
      have := World.block_lt_of_cell? _ _ hc
      exact ⟨g, e, ⟨by simp at this; omega, by simp at this; omega, by simp at this; omega⟩, cell_block hc (hold g (by simp at this; omega))⟩
  have HQ := hid (seq_stop w.heap.size (H + 5) (H + 1) (H + 1 + 1) H tb limit (H + 1 + 1 + 1 + 1) (H + 1 + 1 + 1) P mb kk n ga gc name S D d W5 hLay hSt hSrc hn h1 h2 hsz)
  have HB5 := hid hb5
  have HStr := hid hS
  clear hS ht cm hown hE hat rows hold hLay hSt hSrc hb hb5 s5 hsz
  subst hW5
  subst hH
  have hkl := kept_le S name n
  obtain ⟨M, hM⟩ : ∃ M, M = name :: kept S name n := ⟨_, rfl⟩
  have hMl : M.length ≤ 1025 := by rw [hM]; simp; omega
  have hM1 : 1 ≤ M.length := by rw [hM]; simp
  have HMM := hid hM
  rw [← hM] at HQ
  clear hkl hM
  by_cases hm : limit < M.length
  · have hmi : (limit : Int) < (M.length : Int) := by omega
    have HTK : Hid ((M.take limit).length = limit) := by rw [Hid]; simp; omega
    simp only [Yba.f4, Option.getD_some, sndN]
    go_wp2_with (first
      | (go_at_call 6; refine (bearers_any _ _ _).mono ?_; rintro e w1 ⟨rfl, rfl⟩)
      | (go_at_call 10; refine HQ.out.mono ?_; clear HQ; rintro e w6 ⟨rfl, ⟨st, hSt6⟩, hb6⟩; have ca := hSt6.a; have ct := hSt6.t; have HSt6 := hid hSt6; have HB6 := hid (HB5.out.trans hb6); clear hSt6 hb6 HB5)
      | (go_at_call 8; refine (model_any name a n c S _ hn (by exact HStr.out.below HB6.out)).mono ?_; rw [← HMM.out]; rintro e w7 ⟨g, cap, rfl, hg, hcap, ho, hb7⟩; have ct7 := (hb7.cell (World.block_lt_of_cell? _ _ ct)).trans ct; obtain ⟨v, hv, hvo⟩ := HSt6.out.l; obtain ⟨g2, cap2, rfl⟩ := owned_slice hvo (by rw [HTK.out]; omega); have hv7 := (hb7.cell (World.block_lt_of_cell? _ _ hv)).trans hv; rw [HTK.out] at hv7; have HS1 := hid (owned_strs (ownsRow_later hvo hb7) M (List.take_prefix _ _)); have HS2 := hid (owned_strs ho M List.prefix_rfl); have HB7 := hid (HB6.out.trans (hb7.mono HB6.out.size)); clear hvo ho hb7 hv)
      | (go_at_call 7; refine (equal_true _ _ limit _ _ (fun i => M.getD i ByteArray.empty) (fun i => M.getD i ByteArray.empty) _ (by omega) (by intro i hi; exact HS1.out i (by rw [HTK.out]; omega)) (by intro i hi; exact HS2.out i (by omega)) (fun _ _ => rfl)).mono ?_; rintro e w8 ⟨rfl, m8, rfl⟩))
    go_ret
    exact ⟨rfl, below_drewN HB7.out _⟩
  · have hmi : ¬ ((limit : Int) < (M.length : Int)) := by omega
    have HTK : Hid ((M.take limit).length = M.length) := by rw [Hid]; simp; omega
    simp only [Yba.f4, Option.getD_some, sndN]
    go_wp2_with (first
      | (go_at_call 6; refine (bearers_any _ _ _).mono ?_; rintro e w1 ⟨rfl, rfl⟩)
      | (go_at_call 10; refine HQ.out.mono ?_; clear HQ; rintro e w6 ⟨rfl, ⟨st, hSt6⟩, hb6⟩; have ca := hSt6.a; have ct := hSt6.t; have HSt6 := hid hSt6; have HB6 := hid (HB5.out.trans hb6); clear hSt6 hb6 HB5)
      | (go_at_call 8; refine (model_any name a n c S _ hn (by exact HStr.out.below HB6.out)).mono ?_; rw [← HMM.out]; rintro e w7 ⟨g, cap, rfl, hg, hcap, ho, hb7⟩; have ct7 := (hb7.cell (World.block_lt_of_cell? _ _ ct)).trans ct; obtain ⟨v, hv, hvo⟩ := HSt6.out.l; obtain ⟨g2, cap2, rfl⟩ := owned_slice hvo (by rw [HTK.out]; omega); have hv7 := (hb7.cell (World.block_lt_of_cell? _ _ hv)).trans hv; rw [HTK.out] at hv7; have HS1 := hid (owned_strs (ownsRow_later hvo hb7) M (List.take_prefix _ _)); have HS2 := hid (owned_strs ho M List.prefix_rfl); have HB7 := hid (HB6.out.trans (hb7.mono HB6.out.size)); clear hvo ho hb7 hv)
      | (go_at_call 7; refine (equal_true _ _ M.length _ _ (fun i => M.getD i ByteArray.empty) (fun i => M.getD i ByteArray.empty) _ (by omega) (by intro i hi; exact HS1.out i (by rw [HTK.out]; omega)) (by intro i hi; exact HS2.out i (by omega)) (fun _ _ => rfl)).mono ?_; rintro e w8 ⟨rfl, m8, rfl⟩))
    go_ret
    exact ⟨rfl, below_drewN HB7.out _⟩

end Go.Proofs.Ybulkbyps
