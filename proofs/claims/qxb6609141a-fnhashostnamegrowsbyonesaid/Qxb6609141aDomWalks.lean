/-
  The walks of 'domains', 'ZZb1domains', 'zzSameStrings', 'zzDotsPastFirst', 'zzBytes_..'.
-/
import Derived.Test.Qxb6609141aRows
import Derived.Test.Qxb6609141aDomPlain
import Derived.WalkKit
import Derived.WalkSpells
import Derived.WalkLawsBesides
import Derived.Deep.QuietTactic
import Derived.BigQuiet
namespace Go.Proofs.Qxb6609141a
open Go.RowKit

theorem Try.info9 : (Try.prog.info? 9).map (fun i => (i.zero, i.size, i.bytes)) = some (some (.string ByteArray.empty), 1, 16) := by kernel_rfl

abbrev strs (l : List ByteArray) : List Value := l.map Value.string

theorem strs_one (l : List ByteArray) : ∀ u ∈ strs l, u.oneCell' = true := by
  intro u hu
  obtain ⟨x, _, rfl⟩ := List.mem_map.mp hu
  rfl

theorem rel_dom {B k : Nat} {s : ByteArray} {w wr w1 : World} {v v' : Value} {o : Obj} (h1 : 1 ≤ k) (hk : k < s.size) (h : (s[k].toNat : Int) = 46)
    (hB : B ≤ wr.heap.size) (hown : wr.ownsRow B 9 1 v (doms s k).length (strs (doms s k))) (hnx : Below B w wr)
    (hown' : w1.ownsRow B 9 1 v' ((doms s k).length + 1) (strs (doms s k) ++ [.string (s.extract (k + 1) s.size)])) (hgrow : (wr.alloc o).grownBy w1 v.ownBlock) :
    w1.ownsRow B 9 1 v' (doms s (k + 1)).length (strs (doms s (k + 1))) ∧ Below B w w1 := by
  rw [doms_hit s k h1 hk h]
  refine ⟨by simpa using hown', (hnx.alloc hB o).grown hgrow (by simp; omega) (fun j hj => (hown.lt j hj).1)⟩

set_option maxHeartbeats 800000 in
theorem domains_any (s : ByteArray) (w : World) (hs : s.size ≤ 1000000) :
    Calls Try.prog 17 #[.string s] w fun e w' => ∃ v, e = .returned v ∧ w'.ownsRow w.heap.size 9 1 v (doms s s.size).length (strs (doms s s.size)) ∧ Below w.heap.size w w' := by
  obtain ⟨i0, hi, hz0, hz1, hz2⟩ := info_parts Try.info9
  go_enter Try.func17, Try.ntmps17
  go_wp2
  go_loopw [3, 4] (fun v i wr => ∃ k : Nat, 1 ≤ k ∧ (k ≤ s.size ∨ k = 1) ∧ i = .int .i64 k ∧ wr.ownsRow w.heap.size 9 1 v (doms s k).length (strs (doms s k)) ∧ Below w.heap.size w wr)
    (fun _ i _ => s.size - (intOf i).toNat)
  case atStart => exact ⟨1, Nat.le_refl _, .inr rfl, rfl, by rw [doms_one]; exact World.ownsRow_nil _ _ _ _, Below.refl _ _⟩
  case round =>
    obtain ⟨k, hk1, hk, rfl, hown, hnx⟩ := hrel
    have hdl := doms_le s k
    by_cases hlt : k < s.size
    · go_wp2_with (first
        | (at_builtin; refine wpList_append_own _ rfl _ _ 23 rfl w.heap.size 9 i0 (.string ByteArray.empty) 1 16 Try.underlying23 hi hz0 hz1 hz2 rfl (by decide) _ _ _ rfl (hown.alloc _) ⟨wr.heap.size, 0, none⟩ 1 1 [.string (s.extract (k + 1) s.size)] rfl rfl ?c1 ?c2 ?c3 ?c4 ?c5 ?_)
        | go_in)
      case c1 =>
        intro j u hj
        match j, hj with
        | 0, hj => simp at hj; subst hj; simp [Addr.add]
      case c2 => intro u hu; simp at hu; subst hu; rfl
      case c3 => unfold maxLen; omega
      case c4 => omega
      case c5 => have := hnx.size; simp; omega
      · intro v' w1 hown' hgrow _
        have h : (s[k].toNat : Int) = 46 := by
          have h0 : ((s[k].toNat : Int) == 46) = true := by assumption
          simpa using h0
        have R := rel_dom hk1 hlt h (by have := hnx.size; omega) hown hnx hown' hgrow
        clear hown' hgrow hown h
        go_wp2
        go_roundw
        case rel => exact ⟨k + 1, by omega, by omega, by go_num, R.1, R.2⟩
        case measure => simp [intOf]; omega
      · have h : ¬ (s[k].toNat : Int) = 46 := by
          have h0 : ((s[k].toNat : Int) == 46) = false := by assumption
          simpa using h0
        have e := doms_miss s k hlt h
        go_roundw
        case rel => exact ⟨k + 1, by omega, by omega, by go_num, by rw [e]; exact hown, hnx⟩
        case measure => simp [intOf]; omega
    · have e : doms s k = doms s s.size := by
        by_cases h : k = s.size
        · rw [h]
        · have h1 : k = 1 := by omega
          have h0 : s.size = 0 := by omega
          rw [h1, h0, doms_one]; rfl
      have hown2 : wr.ownsRow w.heap.size 9 1 u3 (doms s s.size).length (strs (doms s s.size)) := by rw [← e]; exact hown
      clear e hown
      go_wp2
      go_ret
      exact ⟨_, rfl, hown2, hnx⟩

theorem zzdomains_any (s : ByteArray) (w : World) (hs : s.size ≤ 1000000) :
    Calls Try.prog 8 #[.string s] w fun e w' => ∃ v, e = .returned v ∧ w'.ownsRow w.heap.size 9 1 v (doms s s.size).length (strs (doms s s.size)) ∧ Below w.heap.size w w' := by
  go_enter Try.func8, Try.ntmps8
  go_wp2_with (go_at_call 17; refine (domains_any _ _ hs).mono ?_; rintro e w' ⟨v, rfl, hown, hbel⟩)
  go_ret
  exact ⟨_, rfl, hown, hbel⟩

/-- What a loop over a slice of strings asks of it: its cells. -/
def Row (w : World) (v : Value) (l : List ByteArray) : Prop :=
  ∃ (ao : Option Addr) (cap : Nat), v = .slice ao l.length cap ∧ (l ≠ [] → ∃ b off, ao = some ⟨b, off, none⟩ ∧ ∀ j (h : j < l.length), w.cell? ⟨b, off + j, none⟩ = some (.string l[j]))

theorem Row.of {w : World} {B : Nat} {v : Value} {l : List ByteArray} (h : w.ownsRow B 9 1 v l.length (strs l)) : Row w v l := by
  have h0 := h
  obtain ⟨_, h | ⟨g, cap, cur, rfl, _, hh, _, _, hs, ht⟩⟩ := h
  · obtain ⟨rfl, he⟩ := h
    exact ⟨none, 0, by rw [he], fun hne => absurd (List.length_eq_zero_iff.mp he) hne⟩
  · refine ⟨_, cap, rfl, fun _ => ⟨g, 0, rfl, fun j hj => ?_⟩⟩
    rw [Nat.zero_add, h0.cellAt j (by omega)]
    simp [strs, hj]

set_option maxHeartbeats 800000 in
theorem same_true (va vb : Value) (l : List ByteArray) (w : World) (hl : l.length ≤ 1000000000) (ha : Row w va l) (hb : Row w vb l) :
    Calls Try.prog 9 #[va, vb] w fun e w' => e = .returned (.bool true) ∧ ∃ n, w' = w.drewN n := by
  obtain ⟨a, ca, rfl, ha⟩ := ha
  obtain ⟨b, cb, rfl, hb⟩ := hb
  go_enter Try.func9, Try.ntmps9
  go_wp2
  go_loopw [13] (fun i wr => ∃ k : Nat, k ≤ l.length ∧ i = .int .i64 k ∧ ∃ n, wr = w.drewN n)
    (fun i _ => l.length - (intOf i).toNat)
  case atStart => exact ⟨0, Nat.zero_le _, rfl, 0, rfl⟩
  case round =>
    obtain ⟨k, hk, rfl, n, rfl⟩ := hrel
    by_cases hlt : k < l.length
    · obtain ⟨b1, o1, rfl, c1⟩ := ha (by intro h; rw [h] at hlt; simp at hlt)
      obtain ⟨b2, o2, rfl, c2⟩ := hb (by intro h; rw [h] at hlt; simp at hlt)
      have d1 := c1 k hlt
      have d2 := c2 k hlt
      clear c1 c2 ha hb
      go_wp2
      go_quiet (fail)
      go_wp2
      go_roundw
      case rel => exact ⟨k + 1, by omega, by go_num, _, rfl⟩
      case measure => simp [intOf]; omega
    · go_wp2
      go_ret
      exact ⟨rfl, _, rfl⟩

theorem bytes_any (a b : ByteArray) (w : World) (ha : a.size ≤ maxLen) (hb : b.size ≤ maxLen) :
    Calls Try.prog 11 #[.string a, .string b] w fun e w' => (∃ r : Bool, e = .returned (.bool r)) ∧ w' = w := by
  unfold maxLen at ha hb
  go_enter Try.func11, Try.ntmps11
  go_wp2
  all_goals (go_ret; exact ⟨⟨_, rfl⟩, rfl⟩)

end Go.Proofs.Qxb6609141a
