/-
  For LawS3749BAll: bearers' closure (function 10) under a range over it.
-/
import Derived.Test.YbulkbypsStopParts
import Derived.RangeFuncBox
import Derived.RangeFuncLeaves
import Derived.Shelf.Abstract
import Derived.OwnWalkIn
import Derived.TacticsInMore
import Derived.LoopNIn
import Derived.LoopIn
import Derived.Maps.AppendAt
import Derived.Sort.QuietIn
namespace Go.Proofs.Ybulkbyps
open Go.RowKit Go.Maps Go.Shelf

attribute [local go_sem] Oper.semAt_some

/-- What a round keeps: every block below n₀ but the collector's box. -/
def Kp (n₀ gb : Nat) (A B : World) : Prop := A.heap.size ≤ B.heap.size ∧ ∀ b, b < n₀ → b ≠ gb → B.heap[b]? = A.heap[b]?
theorem Kp.trans {n₀ gb : Nat} {A B C : World} (h : Kp n₀ gb A B) (k : Kp n₀ gb B C) : Kp n₀ gb A C := ⟨Nat.le_trans h.1 k.1, fun b h1 h2 => (k.2 b h1 h2).trans (h.2 b h1 h2)⟩
theorem Kp.put {n₀ gb : Nat} {w : World} (hn : n₀ ≤ w.heap.size) (W : World) (l : Nat) (o o' : Obj) (hl : w.heap.size ≤ l) (h : W.heap[l]? = some o) (_ : o.isCells = false) (_ : o.isWalk = false) : Kp n₀ gb W (W.putObj l o') :=
  ⟨(grownBy_putObj' W l o').size, fun b h1 _ => (grownBy_putObj' W l o').block b (by have := (Array.getElem?_eq_some_iff.1 h).1; omega) (fun e => by cases e; omega)⟩

set_option maxRecDepth 100000 in
set_option maxHeartbeats 1000000 in
theorem seq_all (m l base gb nb pb P mb k n : Nat) (hm : 1 ≤ m) (ga : Option Addr) (gc : Nat) (name : ByteArray) (S : Nat → ByteArray) (D d : DataW Unit) (J Jx : List ByteArray → World → Prop) (B0 : Nat) (hJ : AbidesFrom B0 J)
    (hY : ∀ pre x W, J pre W → pre.length < n + 1 → YieldAt Fence.wide (m - 1) Yba.prog l #[.string x] W fun e W' =>
      (e = .returned (.bool true) ∧ J (pre ++ [x]) W' ∧ Kp base gb W W') ∨ (e = .returned (.bool false) ∧ Jx (pre ++ [x]) W'))
    (W : World) (hs : Src base gb gb nb pb P mb k n ga gc name S D d W) (hn : n ≤ 1024) (hsz : name.size ≤ maxLen) (h0 : J [] W) :
    CallsIn Fence.wide m Yba.prog 10 #[.func (.yield l) #[] #[], .pointer (some ⟨nb, 0, none⟩), .pointer (some ⟨pb, 0, none⟩)] W fun e W' => (∃ v, e = .returned v) ∧
      ((∃ ys, ys = name :: kept S name n ∧ J ys W') ∨ (∃ pre : List ByteArray, True ∧ Jx pre W')) := by
  have HS := hid hs
  have cn := hs.cn
  obtain ⟨fn, tmps, assign, body, hy, hR⟩ := hY [] name W h0 (by simp)
  clear hs
  refine callsIn_of_wp Yba.func10 rfl trivial ?_ rfl
  simp only [Yba.ntmps10, List.size_toArray, List.length_cons, List.length_nil, Nat.reduceAdd, Nat.reduceSub, Array.replicate_succ, Array.replicate_zero, List.push_toArray, List.append_toArray, List.nil_append, List.cons_append]
  gi_wp2
  refine hR.mono ?_
  rintro e W3 (⟨rfl, hJ3, hk3⟩ | ⟨rfl, hJx3⟩)
  · have HS1 := hid (HS.out.keep fun b h1 h2 _ => hk3.2 b h1 h2)
    have a1 := HS1.out.cn
    have a2 := HS1.out.cp
    have a3 := HS1.out.cm
    have hlk := look_name HS1.out.own hsz HS1.out.hE HS1.out.hat
    clear cn hR hy
    gi_wp2
    gi_quiet (fail)
    gi_wp2
    clear a1 a2 a3 hlk
    gi_loopw [17] (fun i wr => ∃ j : Nat, j ≤ n ∧ i = .int .i64 j ∧ J (name :: kept S name j) wr ∧ Src base gb gb nb pb P mb k n ga gc name S D d wr) (fun i _ => n - (intOf i).toNat)
    case atStart =>
      refine ⟨0, by omega, rfl, ?_, ?_⟩
      · exact hJ _ W3 (W3.drewN nq) none hJ3 ⟨rfl, rfl, rfl, Nat.le_refl _, fun _ _ _ => rfl⟩ (fun r e => by cases e)
      · exact HS1.out.keep (fun _ _ _ _ => rfl)
    case round =>
      clear HS1 HS
      obtain ⟨j, hj, rfl, hT, hS⟩ := hrel
      by_cases hjn : j < n
      · obtain ⟨g, rfl, _, cg⟩ := hS.rows j hjn
        have cn := hS.cn
        have HS := hid hS
        have HT := hid hT
        have hkl := kept_le S name j
        clear hS hT
        by_cases hh : (S j).toList = name.toList
        · have hb : ((S j).toList == name.toList) = true := by simpa using hh
          have HK := hid (kept_hit hh)
          clear hh
          gi_wp2
          refine ⟨fun _ h => (by cases h), ?_⟩
          gi_wp2
          go_roundw
          case rel => exact ⟨j + 1, by omega, by go_num, by rw [HK.out]; exact HT.out, HS.out⟩
          case measure => simp [intOf]; omega
        · have hb : ((S j).toList == name.toList) = false := by simpa using hh
          have HK := hid (kept_miss hh)
          clear hh
          have HP : Hid (name :: kept S name (j + 1) = (name :: kept S name j) ++ [S j]) := by rw [Hid, HK.out]; rfl
          obtain ⟨fn, tmps, assign, body, hy, hR⟩ := hY (name :: kept S name j) (S j) wr HT.out (by simp; omega)
          gi_wp2
          refine hR.mono ?_
          rintro e W4 (⟨rfl, hJ4, hk4⟩ | ⟨rfl, hJx4⟩)
          · gi_wp2
            go_roundw
            case rel => exact ⟨j + 1, by omega, by go_num, by rw [HP.out]; exact hJ4, HS.out.keep fun b h1 h2 _ => hk4.2 b h1 h2⟩
            case measure => simp [intOf]; omega
          · gi_wp2
            refine bodyPost_ret (results_none rfl _ _ _) rfl ?_
            exact ⟨⟨_, rfl⟩, .inr ⟨_, trivial, hJx4⟩⟩
      · obtain rfl : j = n := by omega
        gi_wp2
        go_end0
        exact ⟨⟨_, rfl⟩, .inl ⟨_, rfl, hT⟩⟩
  · gi_wp2
    refine bodyPost_ret (results_none rfl _ _ _) rfl ?_
    exact ⟨⟨_, rfl⟩, .inr ⟨_, trivial, hJx3⟩⟩

/-- bearers' value under a range: the whole list; it never stops by itself. -/
theorem all_stops (m base gb nb pb P mb k n : Nat) (hm : 1 ≤ m) (ga : Option Addr) (gc : Nat) (name : ByteArray) (S : Nat → ByteArray) (D d : DataW Unit) (w : World) (hs : Src base gb gb nb pb P mb k n ga gc name S D d w) (hbase : base ≤ w.heap.size) (hn : n ≤ 1024) (hsz : name.size ≤ maxLen) :
    SeqStopsK Fence.wide m Yba.prog 10 #[.pointer (some ⟨nb, 0, none⟩), .pointer (some ⟨pb, 0, none⟩)] (fun x : ByteArray => #[Value.string x]) (Kp base gb) (fun ys => ys = name :: kept S name n) (fun _ => True) (n + 1) w := fun l J Jx W hW hJ _ hY h0 =>
  seq_all m l base gb nb pb P mb k n hm ga gc name S D d J Jx W.heap.size hJ hY W (hs.keep fun b h1 _ _ => hW.block b (by omega)) hn hsz h0

end Go.Proofs.Ybulkbyps
