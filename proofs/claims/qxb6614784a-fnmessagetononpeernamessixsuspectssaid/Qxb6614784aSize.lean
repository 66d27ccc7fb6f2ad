/-
  The walks of headSize, offset, listLength, listSize and sizeBeforeSuspects.
-/
import Derived.Test.Qxb6614784aSet
namespace Go.Proofs.Qxb6614784a
open Go.RowKit

/-- What headSize answers. -/
def headN (v : Int) : Int := if v < 24 then 1 else if v ≤ 255 then 2 else if v ≤ 65535 then 3 else if v ≤ 4294967295 then 5 else 9

theorem headN_bd (v : Int) : 1 ≤ headN v ∧ headN v ≤ 9 := by
  unfold headN
  split
  · omega
  · split
    · omega
    · split
      · omega
      · split <;> omega

theorem headN_small (v : Int) (h : v ≤ 65535) : headN v ≤ 3 := by
  unfold headN
  split
  · omega
  · split
    · omega
    · omega

set_option maxHeartbeats 400000 in
theorem head_any (v : Int) (w : World) :
    Calls Try.prog 21 #[.int .u64 v] w fun e w' => e = .returned (.int .i64 (headN v)) ∧ w' = w := by
  by_cases h1 : v < 24
  · have e : Hid (headN v = 1) := by show _ = _; unfold headN; rw [if_pos h1]
    go_enter Try.func21, Try.ntmps21
    go_wp2
    go_ret
    exact ⟨by rw [e.out]; rfl, rfl⟩
  · by_cases h2 : v ≤ 255
    · have e : Hid (headN v = 2) := by show _ = _; unfold headN; rw [if_neg h1, if_pos h2]
      go_enter Try.func21, Try.ntmps21
      go_wp2
      go_ret
      exact ⟨by rw [e.out]; rfl, rfl⟩
    · by_cases h3 : v ≤ 65535
      · have e : Hid (headN v = 3) := by show _ = _; unfold headN; rw [if_neg h1, if_neg h2, if_pos h3]
        go_enter Try.func21, Try.ntmps21
        go_wp2
        go_ret
        exact ⟨by rw [e.out]; rfl, rfl⟩
      · by_cases h4 : v ≤ 4294967295
        · have e : Hid (headN v = 5) := by show _ = _; unfold headN; rw [if_neg h1, if_neg h2, if_neg h3, if_pos h4]
          go_enter Try.func21, Try.ntmps21
          go_wp2
          go_ret
          exact ⟨by rw [e.out]; rfl, rfl⟩
        · have e : Hid (headN v = 9) := by show _ = _; unfold headN; rw [if_neg h1, if_neg h2, if_neg h3, if_neg h4]
          go_enter Try.func21, Try.ntmps21
          go_wp2
          go_ret
          exact ⟨by rw [e.out]; rfl, rfl⟩

theorem offset_zero (r : Int) (w : World) :
    Calls Try.prog 22 #[.int .u64 r, .int .u64 0] w fun e w' => e = .returned (.pointer none) ∧ Below w.heap.size w w' := by
  go_enter Try.func22, Try.ntmps22
  go_wp2
  go_ret
  exact ⟨rfl, (Below.refl _ _).alloc (Nat.le_refl _) _⟩

theorem listLength_any (n : Nat) (w : World) (hn : n ≤ 100000) :
    Calls Try.prog 23 #[.int .i64 n] w fun e w' => e = .returned (.int .i64 (((1 + n * 10 + 7) / 8 : Nat) : Int)) ∧ w' = w := by
  go_enter Try.func23, Try.ntmps23
  go_wp2
  go_ret
  exact ⟨by simp, rfl⟩

/-- What listSize answers. -/
def listN (n : Nat) : Int := headN (((1 + n * 10 + 7) / 8 : Nat) : Int) + (((1 + n * 10 + 7) / 8 : Nat) : Int)

theorem listN_six (n : Nat) (h : n ≤ 6) : listN n ≤ 11 := by
  unfold listN
  have h1 : (1 + n * 10 + 7) / 8 ≤ 8 := by omega
  have h2 := headN_small (((1 + n * 10 + 7) / 8 : Nat) : Int) (by omega)
  omega

theorem listSize_any (n : Nat) (w : World) (hn : n ≤ 100000) :
    Calls Try.prog 19 #[.int .i64 n] w fun e w' => e = .returned (.int .i64 (listN n)) ∧ w' = w := by
  have HB := hideIt (headN_bd (((1 + n * 10 + 7) / 8 : Nat) : Int))
  go_enter Try.func19, Try.ntmps19
  go_wp2_with fail
  refine (listLength_any n w hn).mono ?_
  rintro e w' ⟨rfl, rfl⟩
  have hm : (1 + n * 10 + 7) / 8 ≤ 1000000 := by omega
  have HL : Hid (listN n = headN (((1 + n * 10 + 7) / 8 : Nat) : Int) + (((1 + n * 10 + 7) / 8 : Nat) : Int)) := rfl
  generalize (1 + n * 10 + 7) / 8 = m at hm HB HL ⊢
  go_wp2_with fail
  refine (head_any _ _).mono ?_
  rintro e w' ⟨rfl, rfl⟩
  have hb1 := HB.out.1
  have hb2 := HB.out.2
  go_wp2
  go_ret
  exact ⟨by rw [HL.out]; rfl, rfl⟩

set_option maxHeartbeats 800000 in
theorem size_any (f l r : Int) (s : ByteArray) (p : Bool) (w : World) :
    Calls Try.prog 17 #[.agg #[.int .u64 f, .int .u64 l, .int .u64 r, .int .u64 0, .int .u64 0, .string s, .bool p, .bool false, .string ⟨#[]⟩, .string ⟨#[]⟩, .bool false]] w fun e w' =>
      e = .returned (.int .i64 (headN 3 + headN 6 + headN f + headN l + headN r + 2)) ∧ Below w.heap.size w w' := by
  have a3 := headN_bd 3
  have a6 := headN_bd 6
  have af := headN_bd f
  have al := headN_bd l
  have ar := headN_bd r
  go_enter Try.func17, Try.ntmps17
  go_wp2
  go_quiet ((go_at_call 21; exact Calls.quiet_of_same (head_any _ _)))
  go_wp2_with fail
  refine (offset_zero r _).mono ?_
  rintro e w1 ⟨rfl, hb1⟩
  have hb2 := (below_draws (n := nq) ((Below.refl w.heap.size w).alloc (Nat.le_refl _) _)).trans (hb1.mono (by simp))
  go_wp2
  go_ret
  exact ⟨rfl, hb2⟩

end Go.Proofs.Qxb6614784a
