/-
  The iterator wire.Set.All: its contract; the walk of 'bitmap'.
-/
import Derived.RangeFuncNested
import Derived.RangeFuncBound
import Derived.RangeFuncCalls
import Derived.RangeFuncLeaves
import Derived.RangeFuncFrom
import Derived.Shelf.Abstract
import Derived.Shelf.RegionOpen
import Derived.WalkKit
import Derived.OwnWalkIn
import Derived.TacticsInMore
import Derived.LoopNIn
import Derived.LoopIn
import Derived.Test.Qxb6614784aSet
namespace Go.Proofs.Qxb6614784a
open Go.RowKit Go.Shelf
attribute [local go_sem] Oper.semAt_some

theorem grown_of_below {w w' : World} (h : Below w.heap.size w w') : w.grownBy w' none := ⟨h.os, h.tape, h.output, h.size, fun k hk _ => h.block k hk⟩

/-- Block Bs is as it was; no block has gone: what a round must keep for the iterator. -/
def KeptB (Bs : Nat) (W W' : World) : Prop := W'.heap[Bs]? = W.heap[Bs]? ∧ W.heap.size ≤ W'.heap.size

theorem KeptB.refl (Bs : Nat) (W : World) : KeptB Bs W W := ⟨rfl, Nat.le_refl _⟩
theorem keptB_t {Bs : Nat} {A B C : World} (h : KeptB Bs A B) (k : KeptB Bs B C) : KeptB Bs A C := ⟨k.1.trans h.1, Nat.le_trans h.2 k.2⟩
theorem keptB_b {Bs : Nat} {w : World} (hn : Bs < w.heap.size) (W : World) (l : Nat) (o o' : Obj) (hl : w.heap.size ≤ l) (_ : W.heap[l]? = some o) (_ : o.isCells = false) (_ : o.isWalk = false) : KeptB Bs W (W.putObj l o') :=
  ⟨World.putObj_heap_other (by omega), (grownBy_putObj' W l o').size⟩
theorem keptB_below {Bs : Nat} {W W' : World} (hb : Bs < W.heap.size) (h : Below W.heap.size W W') : KeptB Bs W W' := ⟨h.block Bs hb, h.size⟩
theorem KeptB.box {Bs : Nat} {W W' : World} {s : ByteArray} (h : KeptB Bs W W') (hc : BoxS W Bs s) : BoxS W' Bs s := (World.cell?_of_block (w := W) (a := ⟨Bs, 0, none⟩) h.1).trans hc

set_option maxRecDepth 100000 in
set_option maxHeartbeats 2000000 in
theorem all1_in (n : Nat) (hn : 1 ≤ n) (l Bs : Nat) (s : ByteArray) (L : List Nat) (he : IsEnc s L) (hl : s.size ≤ 200000) (J Jx : List Nat → World → Prop) (W : World) (hJ : AbidesFrom W.heap.size J)
    (hY : ∀ pre (x : Nat) W, J pre W → pre.length < L.length → YieldAt Fence.wide (n - 1) Try.prog l #[.int .i64 x] W fun e W' =>
      (e = .returned (.bool true) ∧ J (pre ++ [x]) W' ∧ KeptB Bs W W') ∨ (e = .returned (.bool false) ∧ Jx (pre ++ [x]) W'))
    (hBs : BoxS W Bs s) (h0 : J [] W) :
    CallsIn Fence.wide n Try.prog 24 #[.func (.yield l) #[] #[], .pointer (some ⟨Bs, 0, none⟩)] W fun e W' => (∃ v, e = .returned v) ∧
      ((∃ ys, ys = L ∧ J ys W') ∨ (∃ pre, pre <+: L ∧ Jx pre W')) := by
  have hll : L.length ≤ 100000 := by have := he.1; omega
  have hb : Bs < W.heap.size := cell_lt hBs
  have HE := hideIt he
  have HY := hideIt hY
  have HJ := hideIt hJ
  clear he hY hJ
  refine callsIn_of_wp Try.func24 rfl trivial ?_ rfl
  simp only [Try.ntmps24, List.size_toArray, List.length_cons, List.length_nil, Nat.reduceAdd, Nat.reduceSub, Array.replicate_succ, Array.replicate_zero, List.push_toArray, List.append_toArray, List.nil_append, List.cons_append]
  gi_wp2
  gi_loopw [3] (fun i wr => ∃ k : Nat, k ≤ L.length ∧ i = .int .i64 k ∧ J (L.take k) wr ∧ KeptB Bs W wr)
    (fun i _ => L.length - (intOf i).toNat)
  case atStart => exact ⟨0, Nat.zero_le _, rfl, h0, KeptB.refl _ _⟩
  case round =>
    obtain ⟨k, hk, rfl, hJs, hnx⟩ := hrel
    have hcx : BoxS wr Bs s := hnx.box hBs
    have hbr : Bs < wr.heap.size := cell_lt hcx
    unfold BoxS at hcx
    by_cases hlt : k < L.length
    · gi_wp2_with fail
      refine ⟨trivial, (callsIn_wide.2 (len_any s L _ HE.out hl)).mono ?_⟩
      rintro e w1 ⟨rfl, hb1⟩
      have hJ1 := HJ.out _ _ _ none hJs (grown_of_below hb1) (fun r e => by cases e)
      have hnx1 := keptB_t hnx (keptB_below hbr hb1)
      have hcx1 : BoxS w1 Bs s := hnx1.box hBs
      have hbr1 : Bs < w1.heap.size := cell_lt hcx1
      unfold BoxS at hcx1
      clear hJs hnx hcx hb1
      gi_wp2_with fail
      refine ⟨trivial, (callsIn_wide.2 (at_any s L k _ HE.out hl hlt)).mono ?_⟩
      rintro e w2 ⟨rfl, hb2⟩
      have hJ2 := HJ.out _ _ _ none hJ1 (grown_of_below hb2) (fun r e => by cases e)
      have hnx2 := keptB_t hnx1 (keptB_below hbr1 hb2)
      clear hJ1 hnx1 hcx1 hb2
      obtain ⟨fn, tmps, assign, body, hy, hR⟩ := HY.out _ L[k] w2 hJ2 (by rw [List.length_take]; omega)
      have e1 : Hid (L.take (k + 1) = L.take k ++ [L[k]]) := by show _ = _; rw [List.take_succ_eq_append_getElem hlt]
      gi_wp2
      refine hR.mono ?_
      rintro e W3 (⟨rfl, hJ3, hk3⟩ | ⟨rfl, hJx3⟩)
      · gi_wp2
        go_roundw
        case rel => exact ⟨k + 1, by omega, by simp, by rw [e1.out]; exact hJ3, keptB_t hnx2 hk3⟩
        case measure => simp [intOf]; omega
      · gi_wp2
        refine bodyPost_ret (results_none rfl _ _ _) rfl ?_
        exact ⟨⟨_, rfl⟩, .inr ⟨_, by rw [← e1.out]; exact List.take_prefix _ _, hJx3⟩⟩
    · obtain rfl : k = L.length := by omega
      rw [List.take_length] at hJs
      gi_wp2_with fail
      refine ⟨trivial, (callsIn_wide.2 (len_any s L _ HE.out hl)).mono ?_⟩
      rintro e w1 ⟨rfl, hb1⟩
      have hJ1 := HJ.out _ _ _ none hJs (grown_of_below hb1) (fun r e => by cases e)
      clear hJs hb1 hcx
      gi_wp2
      go_end0
      exact ⟨⟨_, rfl⟩, .inl ⟨_, rfl, hJ1⟩⟩

/-- All's value stops as 'SeqStopsK' says. -/
theorem all_stops (n : Nat) (hn : 1 ≤ n) (Bs : Nat) (s : ByteArray) (L : List Nat) (he : IsEnc s L) (hl : s.size ≤ 200000) (w : World) (hc : BoxS w Bs s) :
    SeqStopsK Fence.wide n Try.prog 24 #[.pointer (some ⟨Bs, 0, none⟩)] (fun x : Nat => #[Value.int .i64 (x : Int)]) (KeptB Bs) (fun ys => ys = L) (fun pre => pre <+: L) L.length w := fun l J Jx W hW hJ _ hY h0 =>
  all1_in n hn l Bs s L he hl J Jx W hJ hY ((hW.cell (p := ⟨Bs, 0, none⟩) (cell_lt hc)).trans hc) h0

set_option maxHeartbeats 1000000 in
/-- All(s): s is boxed; the function value captures the box. -/
theorem all_any (s : ByteArray) (w : World) :
    Calls Try.prog 20 #[.agg #[.string s]] w fun e w' => e = .returned (.func (.func 24) #[] #[.pointer (some ⟨w.heap.size, 0, none⟩)]) ∧ w' = w.alloc (.cells #[.string s] 24) := by
  go_enter Try.func20, Try.ntmps20
  go_wp2
  go_ret
  exact ⟨rfl, rfl⟩

end Go.Proofs.Qxb6614784a
