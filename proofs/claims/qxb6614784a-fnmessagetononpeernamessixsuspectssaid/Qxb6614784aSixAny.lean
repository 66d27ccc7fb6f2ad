/-
  The walk of 'FnMessageToNonPeerNamesSixSuspects': the guards at its head, then the rest by 'six_in'.
-/
import Derived.Test.Qxb6614784aSix
namespace Go.Proofs.Qxb6614784a
open Go.RowKit

set_option maxRecDepth 20000 in
set_option maxHeartbeats 1600000 in
theorem six_any (self life round to a b c e f g : Int) (w : World) (h3 : (Lit.int .u64 to).wf = true) :
    Calls Try.prog 4 #[.int .u64 self, .int .u64 life, .int .u64 round, .int .u64 to, .int .i64 a, .int .i64 b, .int .i64 c, .int .i64 e, .int .i64 f, .int .i64 g] w fun e w' => e = .returned (.bool true) ∧ Below w.heap.size w w' := by
  have leave : Hid (∀ x : Bool, x = true → (Ending.returned (.bool x) = .returned (.bool true) ∧ Below w.heap.size w w)) := fun x h => ⟨by rw [h], Below.refl _ _⟩
  by_cases h0 : 65535 < self
  · clear h3
    go_enter Try.func4, Try.ntmps4
    go_wp2
    all_goals
      go_ret
      exact leave.out _ rfl
  by_cases la : a < 0
  · clear h3
    go_enter Try.func4, Try.ntmps4
    go_wp2
    all_goals
      go_ret
      exact leave.out _ rfl
  by_cases ua : 1023 < a
  · clear h3
    go_enter Try.func4, Try.ntmps4
    go_wp2
    all_goals
      go_ret
      exact leave.out _ rfl
  by_cases lb : b < 0
  · clear h3
    go_enter Try.func4, Try.ntmps4
    go_wp2
    all_goals
      go_ret
      exact leave.out _ rfl
  by_cases ub : 1023 < b
  · clear h3
    go_enter Try.func4, Try.ntmps4
    go_wp2
    all_goals
      go_ret
      exact leave.out _ rfl
  by_cases lc : c < 0
  · clear h3
    go_enter Try.func4, Try.ntmps4
    go_wp2
    all_goals
      go_ret
      exact leave.out _ rfl
  by_cases uc : 1023 < c
  · clear h3
    go_enter Try.func4, Try.ntmps4
    go_wp2
    all_goals
      go_ret
      exact leave.out _ rfl
  by_cases le : e < 0
  · clear h3
    go_enter Try.func4, Try.ntmps4
    go_wp2
    all_goals
      go_ret
      exact leave.out _ rfl
  by_cases ue : 1023 < e
  · clear h3
    go_enter Try.func4, Try.ntmps4
    go_wp2
    all_goals
      go_ret
      exact leave.out _ rfl
  by_cases lf : f < 0
  · clear h3
    go_enter Try.func4, Try.ntmps4
    go_wp2
    all_goals
      go_ret
      exact leave.out _ rfl
  by_cases uf : 1023 < f
  · clear h3
    go_enter Try.func4, Try.ntmps4
    go_wp2
    all_goals
      go_ret
      exact leave.out _ rfl
  by_cases lg : g < 0
  · clear h3
    go_enter Try.func4, Try.ntmps4
    go_wp2
    all_goals
      go_ret
      exact leave.out _ rfl
  by_cases ug : 1023 < g
  · clear h3
    go_enter Try.func4, Try.ntmps4
    go_wp2
    all_goals
      go_ret
      exact leave.out _ rfl
  obtain ⟨a, rfl⟩ := Int.eq_ofNat_of_zero_le (by omega : 0 ≤ a)
  obtain ⟨b, rfl⟩ := Int.eq_ofNat_of_zero_le (by omega : 0 ≤ b)
  obtain ⟨c, rfl⟩ := Int.eq_ofNat_of_zero_le (by omega : 0 ≤ c)
  obtain ⟨e, rfl⟩ := Int.eq_ofNat_of_zero_le (by omega : 0 ≤ e)
  obtain ⟨f, rfl⟩ := Int.eq_ofNat_of_zero_le (by omega : 0 ≤ f)
  obtain ⟨g, rfl⟩ := Int.eq_ofNat_of_zero_le (by omega : 0 ≤ g)
  exact six_in self life round to a b c e f g w (by omega) h3 (by omega) (by omega) (by omega) (by omega) (by omega) (by omega)

end Go.Proofs.Qxb6614784a
