/-
  The walk of portunus.LawS3748AFirst (function 3) over the contract of (*queue).firstToSkip (4).
-/
import Derived.Test.YbulkbypeRows
import Derived.Test.YbulkbypeFirstPlain
import Derived.WalkLawsBesides
import Derived.Lib.Builder
import Derived.BigQuiet
import Derived.Deep.QuietTactic
namespace Go.Proofs.Ybulkbype
open Go.RowKit

theorem info23 : (Yba.prog.info? 23).map (fun i => (i.zero, i.size, i.bytes)) = some (some (.pointer none), 1, 8) := by kernel_rfl

theorem info35 : (Yba.prog.info? 35).isSome = true := by kernel_rfl

/-- A task held against itself. -/
theorem neq23 (a : Addr) (w : World) : (binOp .neq 23 (.pointer (some a)) (.pointer (some a))).run Yba.prog w = .ok (.bool false) w := by
  obtain ⟨j, hj⟩ := Option.isSome_iff_exists.1 info35
  exact Lib.run_neq_ptr_same w a Yba.underlying23 hj
attribute [local go_sem] neq23

/-- One pointer appended to a slice of pointers that the call owns. -/
theorem wpList_app {ops : Array Oper} {rest : List Oper} {o : Oper} {a : Act} {Q : Exit → Act → World → Prop} (w : World) (hgd : o.guard = none) (s x : Operand) (t : TypeId)
    (ho : o.op = .call { callee := .builtin .append, args := #[s, x], argTypes := #[t, t] }) (ht : Yba.prog.underlying t = some (.slice 23))
    (base : Nat) (v : Value) (n : Nat) (xs : List Value) (hs : a.eval s = v) (hown : w.ownsRow base 23 1 v n xs)
    (b T : Nat) (hx : a.eval x = .slice (some ⟨b, 0, none⟩) 1 1) (hnews : w.cell? ⟨b, 0, none⟩ = some (ptr T)) (hn : n ≤ 1000) (hbase : base ≤ w.heap.size) (H : Nat) (hH : w.heap.size = H)
    (h : ∀ g cap w', w'.ownsRow base 23 1 (.slice (some ⟨g, 0, none⟩) (n + 1) cap) (n + 1) (xs ++ [ptr T]) → w.grownBy w' v.ownBlock → (v.ownBlock = some g ∨ g = H) → g < w'.heap.size → wpList Yba.prog ops Q rest (a.put o.dst (.slice (some ⟨g, 0, none⟩) (n + 1) cap)) w') :
    wpList Yba.prog ops Q (o :: rest) a w := by
  obtain ⟨i0, hi, hz0, hz1, hz2⟩ := info_parts info23
  refine wpList_append_lies w hgd s x t ho base 23 i0 (.pointer none) 1 8 ht hi hz0 hz1 hz2 rfl (by decide) v n xs hs hown ⟨b, 0, none⟩ 1 1 [ptr T] hx rfl ?_ ?_ (by decide) (by unfold maxLen; omega) (by omega) hbase H hH h
  · intro j u hj
    match j, hj with
    | 0, hj => simp at hj; subst hj; simpa [Addr.add] using hnews
  · intro u hu
    simp at hu
    subst hu
    rfl

theorem make25 (n : Nat) (hn : n ≤ 255) (w : World) : (Instr.makeSlice 25 (.int .i64 0) (.int .i64 (n : Int))).run Yba.prog w = .ok (.slice (some ⟨w.heap.size, 0, none⟩) 0 n) (w.alloc (.cells (madeCells #[.pointer none] n) 23)) := by
  obtain ⟨i0, hi, hz0, hz1, hz2⟩ := info_parts info23
  have hmk := run_make (P := Yba.prog) w 25 23 i0 _ Yba.underlying25 hi hz0 .i64 .i64 0 n (by omega) (by omega) (by rw [hz2]; omega) (by omega)
  simp only [hz1, Int.toNat_zero, Int.toNat_natCast, Nat.mul_one] at hmk
  exact hmk

set_option maxHeartbeats 400000 in
theorem skip_none (b R : Nat) (ho : Option Addr) (hc : Nat) (w : World) (hR : R < 4) (h : w.cell? ⟨b, R * 3 + 2, none⟩ = some (.slice ho 0 hc)) :
    Calls Yba.prog 4 #[.pointer (some ⟨b, 0, none⟩), .int .i64 R] w fun e w' => e = .returned (.pointer none) ∧ w' = w := by
  go_enter Yba.func4, Yba.ntmps4
  go_wp2
  go_ret
  exact ⟨rfl, rfl⟩

set_option maxHeartbeats 400000 in
theorem skip_some (b R g n hc T : Nat) (w : World) (hR : R < 4) (h : w.cell? ⟨b, R * 3 + 2, none⟩ = some (.slice (some ⟨g, 0, none⟩) n hc)) (hn : 0 < n) (hm : n ≤ 255) (h0 : w.cell? ⟨g, 0, none⟩ = some (ptr T)) :
    Calls Yba.prog 4 #[.pointer (some ⟨b, 0, none⟩), .int .i64 R] w fun e w' => e = .returned (ptr T) ∧ w' = w := by
  have h1 : ((n : Int) == 0) = false := by simp; omega
  go_enter Yba.func4, Yba.ntmps4
  go_wp2
  go_ret
  exact ⟨rfl, rfl⟩

set_option maxRecDepth 20000 in
set_option maxHeartbeats 1000000 in
theorem walk (cs : Nat → Nat) (sel : Int) (hcs : ∀ j, cs j ≤ 255) (hs0 : 0 ≤ sel) (hs1 : sel ≤ 255) (w : World) :
    Calls Yba.prog 3 #[.agg #[.int .u8 (cs 0), .int .u8 (cs 1), .int .u8 (cs 2), .int .u8 (cs 3)], .int .u8 sel] w fun e w' => e = .returned (.bool true) ∧ Below w.heap.size w w' := by
  obtain ⟨R, hR⟩ : ∃ R : Nat, sel % 4 = (R : Int) := ⟨(sel % 4).toNat, by omega⟩
  have hR4 : R < 4 := by omega
  have HCS := hid hcs
  clear hcs
  go_enter Yba.func3, Yba.ntmps3
  go_wp2
  try rw [hR]
  clear hR
  go_loopw [8] (fun i wr => ∃ r : Nat, r ≤ 4 ∧ i = .int .i64 r ∧ ∃ hv av ts, Outer w.heap.size cs r wr hv av ts ∧ Below w.heap.size w wr) (fun i _ => 4 - (intOf i).toNat)
  case atStart => exact ⟨0, by omega, rfl, _, _, _, Outer.start w cs, (((Below.refl _ w).alloc (Nat.le_refl _) _).alloc (by simp) _).alloc (by simp; omega) _⟩
  case round =>
    obtain ⟨r, hr, rfl, hv, av, ts, hO, hbel⟩ := hrel
    have hcr := HCS.out r
    by_cases hlt : r < 4
    · have hd : decide ((r : Int) < 4) = true := by simp; omega
      have hcB := hO.cB r hlt
      have hmk := make25 (cs r) hcr
      have HI0 := hid (hO.begin hlt (madeCells #[.pointer none] (cs r)) (size_madeCells _ _) (by unfold maxLen; omega))
      have hbig := hO.big
      have hfq := hO.fq (r * 3 + 2)
      have HO := hid hO
      clear hO
      go_wp2
      go_loopw [10, 11] (fun h i ws => ∃ k : Nat, k ≤ cs r ∧ i = .int .i64 k ∧ ∃ g cap a t, h = .slice (some ⟨g, 0, none⟩) k cap ∧ Inner w.heap.size (w.heap.size + 1 + 1) r wr k g cap a t ws) (fun _ i _ => cs r - (intOf i).toNat)
      case atStart => exact ⟨0, Nat.zero_le _, rfl, _, _, _, _, rfl, HI0.out⟩
      case round =>
        obtain ⟨k, hk, rfl, g, cap, a, t, rfl, hI⟩ := hrel
        clear hmk hcB HI0
        by_cases hkn : k < cs r
        · have hsz := hI.below.size
          have HIn := hid hI
          clear hI
          go_wp2_with (first
            | (at_builtin; (refine wpList_app _ rfl (.tmp 39) (.tmp 41) 25 rfl Yba.underlying25 (w.heap.size + 3) (.slice (some ⟨g, 0, none⟩) k cap) k (t.map ptr) rfl ((HIn.out.own1.alloc _).alloc _) (wr.heap.size + 1) wr.heap.size rfl (by simp) (by omega) (by simp; omega) (wr.heap.size + 1 + 1) (by simp) ?_); intro g1 cap1 w3 o3 gr3 at3 lt3; obtain ⟨m1, m2, m3, m4⟩ := HIn.out.mid rfl hbig gr3; have M2 := hid m2; have M3 := hid m3; have O3 := hid o3; have G3 := hid gr3; have A3 := hid at3; clear m2 m3 o3 gr3 at3)
            | (at_builtin; (refine wpList_app _ rfl (.tmp 46) (.tmp 48) 24 rfl Yba.underlying24 (w.heap.size + 3) a k (t.map ptr) rfl (M2.out.alloc _) w3.heap.size wr.heap.size rfl (by simp) (by omega) (by simp; omega) (w3.heap.size + 1) (by simp) ?_); intro g2 cap2 w5 o5 gr5 at5 lt5; obtain ⟨m5, m6⟩ := HIn.out.mid5 rfl hbig m1 M3.out m4 gr5; have R := hid (HIn.out.step rfl hbig G3.out A3.out O3.out gr5 at5 o5); clear o5 gr5 at5))
          go_roundw
          case rel =>
            exact ⟨k + 1, by omega, by go_num, _, _, _, _, rfl, R.out⟩
          case measure => simp [intOf]; omega
        · obtain rfl : k = cs r := by omega
          obtain ⟨n1, n2⟩ := HO.out.atQ hlt hI
          have R := hid (HO.out.next hlt hI)
          have RB := hid (hbel.trans (hI.below.setCell (p := ⟨w.heap.size + 1, r * 3 + 2, none⟩) (by simp) (.slice (some ⟨g, 0, none⟩) (cs r) cap)))
          clear hI hbel
          go_wp2
          go_roundw
          case rel => exact ⟨r + 1, by omega, by go_num, _, _, _, R.out, RB.out⟩
          case measure => simp [intOf]; omega
    · obtain rfl : r = 4 := by omega
      obtain ⟨ho, ao, hc, ac, T, hF⟩ : ∃ ho ao hc ac T, Fin4 w.heap.size cs wr ho ao hc ac T := ⟨_, _, _, _, _, hO.fin⟩
      have hcR := HCS.out R
      have e1 := hF.q2 R hR4
      have e2 := hF.cB R hR4
      have e3 := hF.a R hR4
      clear hO
      have HF := hid hF
      by_cases hz : cs R = 0
      · have e0 : ((cs R : Int) == 0) = true := by simp [hz]
        rw [hz] at e1
        clear hz hF e3
        go_wp2_with (go_at_call 4; refine (skip_none _ R (ho R) (hc R) _ hR4 (by exact e1)).mono ?_; rintro e w' ⟨rfl, rfl⟩)
        clear e0 e1 e2
        go_loopw [14] (fun i ws => ∃ r : Nat, r ≤ 4 ∧ i = .int .i64 r ∧ Fin4 w.heap.size cs ws ho ao hc ac T ∧ Below w.heap.size w ws) (fun i _ => 4 - (intOf i).toNat)
        case atStart => exact ⟨0, by omega, rfl, HF.out, hbel⟩
        case round =>
          clear HF hbel
          obtain ⟨r, hr, rfl, hF, hbel⟩ := hrel
          have hcr := HCS.out r
          have HF := hid hF
          have HB := hid hbel
          clear hbel
          by_cases hlt : r < 4
          · have hd : decide ((r : Int) < 4) = true := by simp; omega
            have b0 := hF.q0 r hlt
            have b1 := hF.q1 r hlt
            have b2 := hF.q2 r hlt
            have b3 := hF.a r hlt
            have b4 : ((cs r : Int) != (cs r : Int)) = false := by simp
            clear hF
            go_wp2
            go_quiet (fail)
            go_wp2
            clear b0 b1 b4
            go_loopw [15] (fun i ws => ∃ k : Nat, k ≤ cs r ∧ i = .int .i64 k ∧ Fin4 w.heap.size cs ws ho ao hc ac T ∧ Below w.heap.size w ws) (fun i _ => cs r - (intOf i).toNat)
            case atStart => exact ⟨0, by omega, rfl, HF.out.same (fun a => by simp), by simpa using below_drewN HB.out nq⟩
            case round =>
              clear HF HB b2 b3
              obtain ⟨k, hk, rfl, hF, hbel⟩ := hrel
              have HF := hid hF
              have HB := hid hbel
              have b2 := hF.q2 r hlt
              have b3 := hF.a r hlt
              clear hbel
              by_cases hkn : k < cs r
              · obtain ⟨g, g', f1, f2, f3, f4, f5, f6, f7⟩ := hF.h r hlt k hkn
                rw [f1] at b2
                rw [f2] at b3
                clear f1 f2 hF
                go_wp2
                go_roundw
                case rel => exact ⟨k + 1, by omega, by go_num, HF.out, HB.out⟩
                case measure => simp [intOf]; omega
              · clear hF
                go_wp2
                go_roundw
                case rel => exact ⟨r + 1, by omega, by go_num, HF.out, HB.out⟩
                case measure => simp [intOf]; omega
          · clear hF
            go_wp2
            go_ret
            exact ⟨rfl, HB.out⟩
      · have e0 : ((cs R : Int) == 0) = false := by simpa using hz
        obtain ⟨g, g', f1, f2, f3, f4, f5, f6, f7⟩ := hF.h R hR4 0 (by omega)
        rw [f1] at e1
        rw [f2] at e3
        clear hF f1 f2
        have hpos : 0 < cs R := by omega
        go_wp2_with (go_at_call 4; refine (skip_some _ R g (cs R) (hc R) (T R 0) _ hR4 (by exact e1) (by omega) (by omega) (by exact f3)).mono ?_; rintro e w' ⟨rfl, rfl⟩)
        clear e0 e1 e2 e3 f3 f4 f5 f6 f7 hz
        go_loopw [14] (fun i ws => ∃ r : Nat, r ≤ 4 ∧ i = .int .i64 r ∧ Fin4 w.heap.size cs ws ho ao hc ac T ∧ Below w.heap.size w ws) (fun i _ => 4 - (intOf i).toNat)
        case atStart => exact ⟨0, by omega, rfl, HF.out, hbel⟩
        case round =>
          clear HF hbel
          obtain ⟨r, hr, rfl, hF, hbel⟩ := hrel
          have hcr := HCS.out r
          have HF := hid hF
          have HB := hid hbel
          clear hbel
          by_cases hlt : r < 4
          · have hd : decide ((r : Int) < 4) = true := by simp; omega
            have b0 := hF.q0 r hlt
            have b1 := hF.q1 r hlt
            have b2 := hF.q2 r hlt
            have b3 := hF.a r hlt
            have b4 : ((cs r : Int) != (cs r : Int)) = false := by simp
            clear hF
            go_wp2
            go_quiet (fail)
            go_wp2
            clear b0 b1 b4
            go_loopw [15] (fun i ws => ∃ k : Nat, k ≤ cs r ∧ i = .int .i64 k ∧ Fin4 w.heap.size cs ws ho ao hc ac T ∧ Below w.heap.size w ws) (fun i _ => cs r - (intOf i).toNat)
            case atStart => exact ⟨0, by omega, rfl, HF.out.same (fun a => by simp), by simpa using below_drewN HB.out nq⟩
            case round =>
              clear HF HB b2 b3
              obtain ⟨k, hk, rfl, hF, hbel⟩ := hrel
              have HF := hid hF
              have HB := hid hbel
              have b2 := hF.q2 r hlt
              have b3 := hF.a r hlt
              clear hbel
              by_cases hkn : k < cs r
              · obtain ⟨g, g', f1, f2, f3, f4, f5, f6, f7⟩ := hF.h r hlt k hkn
                rw [f1] at b2
                rw [f2] at b3
                clear f1 f2 hF
                go_wp2
                go_roundw
                case rel => exact ⟨k + 1, by omega, by go_num, HF.out, HB.out⟩
                case measure => simp [intOf]; omega
              · clear hF
                go_wp2
                go_roundw
                case rel => exact ⟨r + 1, by omega, by go_num, HF.out, HB.out⟩
                case measure => simp [intOf]; omega
          · clear hF
            go_wp2
            go_ret
            exact ⟨rfl, HB.out⟩
end Go.Proofs.Ybulkbype
