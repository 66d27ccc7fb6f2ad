/-
  The walk of 'validTypeName' and its export.
-/
import Derived.Test.Qxb6609152aFmtRows
import Derived.Test.Qxb6609152aFmtPlain
import Derived.WalkKit
import Derived.WalkSpells
import Derived.WalkLawsBesides
import Derived.Laws.IdiomStrings
namespace Go.Proofs.Qxb6609152aFmt
open Go.RowKit

theorem bytes_of (s : ByteArray) (w : World) : ∃ w1 cap, (convert 9 36 (.string s)).run Tryf.prog w = .ok (.slice (some ⟨w.heap.size, 0, none⟩) s.size cap) w1 ∧
    (∀ j (h : j < s.size), w1.cell? ⟨w.heap.size, j, none⟩ = some (.int .u8 (s[j].toNat : Int))) ∧ Below w.heap.size w w1 := by
  refine ⟨_, _, run_bytes_of_string w 9 36 5 s Tryf.underlying9 Tryf.underlying36 Tryf.underlying5, ?_, ?_⟩
  · intro j h
    have := bytesRow_at s (grownCap w s.size 0 5) j h
    exact (World.cell?_alloc_mark w.drew _ _ _ j).trans this
  · exact ((Below.refl _ w).drew).alloc (Nat.le_refl _) _

set_option maxHeartbeats 800000 in
theorem valid_any (s : ByteArray) (w : World) (hs : s.size ≤ 9000000000) :
    Calls Tryf.prog 18 #[.string s] w fun e w' => e = .returned (.bool (valid s)) ∧ Below w.heap.size w w' := by
  obtain ⟨w1, cap, hcv, hc, hb⟩ := bytes_of s w
  go_enter Tryf.func18, Tryf.ntmps18
  go_wp2
  · have h0 : s.toList.isEmpty = true := by assumption
    go_ret
    exact ⟨by rw [valid_empty s (by rw [← ByteArray.toList_eq]; exact h0)]; rfl, Below.refl _ _⟩
  · have h0 : Hid (s.data.toList.isEmpty = false) := by
      have h0 : s.toList.isEmpty = false := by assumption
      rw [ByteArray.toList_eq] at h0; exact h0
    clear hcv
    go_loop [10] (fun i => ∃ k : Nat, k ≤ s.size ∧ i = .int .i64 k ∧ Hid (∀ j (h : j < s.size), j < k → okc s[j].toNat = true)) (fun i => s.size - (intOf i).toNat)
    case atStart => exact ⟨0, Nat.zero_le _, rfl, fun _ _ h => by omega⟩
    case round =>
      obtain ⟨k, hk, rfl, hyes⟩ := hrel
      by_cases hlt : k < s.size
      · have hck := hc k hlt
        have hc255 : s[k].toNat < 256 := UInt8.toNat_lt _
        obtain ⟨c, hce⟩ : ∃ c : Int, (s[k].toNat : Int) = c := ⟨_, rfl⟩
        rw [hce] at hck
        cases hok : okc s[k].toNat with
        | true =>
          have HOK : Hid (okc s[k].toNat = true) := hok
          have hcs := okc_cases _ hok
          rw [hce] at hcs
          clear hok hc hce hc255
          rcases hcs with ⟨h1, h2⟩ | ⟨h1, h2⟩ | ⟨h1, h2⟩ | ⟨h1, h2⟩
          · have t0 : decide (97 ≤ c) = true := decide_eq_true (by omega)
            have t1 : decide (c ≤ 122) = true := decide_eq_true (by omega)
            have t2 : decide (65 ≤ c) = true := decide_eq_true (by omega)
            have t3 : decide (c ≤ 90) = false := decide_eq_false (by omega)
            have t4 : decide (48 ≤ c) = true := decide_eq_true (by omega)
            have t5 : decide (c ≤ 57) = false := decide_eq_false (by omega)
            have t6 : (c == 95) = false := by rw [beq_eq_false_iff_ne]; omega
            clear h1 h2
            go_wp2
            go_round
            case rel =>
              refine ⟨k + 1, by omega, by go_num, ?_⟩
              intro j hj hjk
              by_cases h : j = k
              · subst h; exact HOK.out
              · exact hyes.out j hj (by omega)
            case measure => simp [intOf]; omega
          · have t0 : decide (97 ≤ c) = false := decide_eq_false (by omega)
            have t1 : decide (c ≤ 122) = true := decide_eq_true (by omega)
            have t2 : decide (65 ≤ c) = true := decide_eq_true (by omega)
            have t3 : decide (c ≤ 90) = true := decide_eq_true (by omega)
            have t4 : decide (48 ≤ c) = true := decide_eq_true (by omega)
            have t5 : decide (c ≤ 57) = false := decide_eq_false (by omega)
            have t6 : (c == 95) = false := by rw [beq_eq_false_iff_ne]; omega
            clear h1 h2
            go_wp2
            go_round
            case rel =>
              refine ⟨k + 1, by omega, by go_num, ?_⟩
              intro j hj hjk
              by_cases h : j = k
              · subst h; exact HOK.out
              · exact hyes.out j hj (by omega)
            case measure => simp [intOf]; omega
          · have t0 : decide (97 ≤ c) = false := decide_eq_false (by omega)
            have t1 : decide (c ≤ 122) = true := decide_eq_true (by omega)
            have t2 : decide (65 ≤ c) = false := decide_eq_false (by omega)
            have t3 : decide (c ≤ 90) = true := decide_eq_true (by omega)
            have t4 : decide (48 ≤ c) = true := decide_eq_true (by omega)
            have t5 : decide (c ≤ 57) = true := decide_eq_true (by omega)
            have t6 : (c == 95) = false := by rw [beq_eq_false_iff_ne]; omega
            clear h1 h2
            go_wp2
            go_round
            case rel =>
              refine ⟨k + 1, by omega, by go_num, ?_⟩
              intro j hj hjk
              by_cases h : j = k
              · subst h; exact HOK.out
              · exact hyes.out j hj (by omega)
            case measure => simp [intOf]; omega
          · have t0 : decide (97 ≤ c) = false := decide_eq_false (by omega)
            have t1 : decide (c ≤ 122) = true := decide_eq_true (by omega)
            have t2 : decide (65 ≤ c) = true := decide_eq_true (by omega)
            have t3 : decide (c ≤ 90) = false := decide_eq_false (by omega)
            have t4 : decide (48 ≤ c) = true := decide_eq_true (by omega)
            have t5 : decide (c ≤ 57) = false := decide_eq_false (by omega)
            have t6 : (c == 95) = true := by rw [beq_iff_eq]; omega
            clear h1 h2
            go_wp2
            go_round
            case rel =>
              refine ⟨k + 1, by omega, by go_num, ?_⟩
              intro j hj hjk
              by_cases h : j = k
              · subst h; exact HOK.out
              · exact hyes.out j hj (by omega)
            case measure => simp [intOf]; omega
        | false =>
          have hv : Hid (valid s = false) := valid_not s k hlt hok
          have hcs := okc_no _ hok hc255
          rw [hce] at hcs
          clear hok hc hce hc255
          rcases hcs with ⟨h1, h2⟩ | ⟨h1, h2⟩ | ⟨h1, h2⟩ | ⟨h1, h2⟩ | ⟨h1, h2⟩
          · have t0 : decide (97 ≤ c) = false := decide_eq_false (by omega)
            have t1 : decide (c ≤ 122) = true := decide_eq_true (by omega)
            have t2 : decide (65 ≤ c) = false := decide_eq_false (by omega)
            have t3 : decide (c ≤ 90) = true := decide_eq_true (by omega)
            have t4 : decide (48 ≤ c) = false := decide_eq_false (by omega)
            have t5 : decide (c ≤ 57) = true := decide_eq_true (by omega)
            have t6 : (c == 95) = false := by rw [beq_eq_false_iff_ne]; omega
            clear h1 h2
            go_wp2
            go_ret
            exact ⟨by rw [hv.out]; rfl, hb⟩
          · have t0 : decide (97 ≤ c) = false := decide_eq_false (by omega)
            have t1 : decide (c ≤ 122) = true := decide_eq_true (by omega)
            have t2 : decide (65 ≤ c) = false := decide_eq_false (by omega)
            have t3 : decide (c ≤ 90) = true := decide_eq_true (by omega)
            have t4 : decide (48 ≤ c) = true := decide_eq_true (by omega)
            have t5 : decide (c ≤ 57) = false := decide_eq_false (by omega)
            have t6 : (c == 95) = false := by rw [beq_eq_false_iff_ne]; omega
            clear h1 h2
            go_wp2
            go_ret
            exact ⟨by rw [hv.out]; rfl, hb⟩
          · have t0 : decide (97 ≤ c) = false := decide_eq_false (by omega)
            have t1 : decide (c ≤ 122) = true := decide_eq_true (by omega)
            have t2 : decide (65 ≤ c) = true := decide_eq_true (by omega)
            have t3 : decide (c ≤ 90) = false := decide_eq_false (by omega)
            have t4 : decide (48 ≤ c) = true := decide_eq_true (by omega)
            have t5 : decide (c ≤ 57) = false := decide_eq_false (by omega)
            have t6 : (c == 95) = false := by rw [beq_eq_false_iff_ne]; omega
            clear h1 h2
            go_wp2
            go_ret
            exact ⟨by rw [hv.out]; rfl, hb⟩
          · have t0 : decide (97 ≤ c) = false := decide_eq_false (by omega)
            have t1 : decide (c ≤ 122) = true := decide_eq_true (by omega)
            have t2 : decide (65 ≤ c) = true := decide_eq_true (by omega)
            have t3 : decide (c ≤ 90) = false := decide_eq_false (by omega)
            have t4 : decide (48 ≤ c) = true := decide_eq_true (by omega)
            have t5 : decide (c ≤ 57) = false := decide_eq_false (by omega)
            have t6 : (c == 95) = false := by rw [beq_eq_false_iff_ne]; omega
            clear h1 h2
            go_wp2
            go_ret
            exact ⟨by rw [hv.out]; rfl, hb⟩
          · have t0 : decide (97 ≤ c) = true := decide_eq_true (by omega)
            have t1 : decide (c ≤ 122) = false := decide_eq_false (by omega)
            have t2 : decide (65 ≤ c) = true := decide_eq_true (by omega)
            have t3 : decide (c ≤ 90) = false := decide_eq_false (by omega)
            have t4 : decide (48 ≤ c) = true := decide_eq_true (by omega)
            have t5 : decide (c ≤ 57) = false := decide_eq_false (by omega)
            have t6 : (c == 95) = false := by rw [beq_eq_false_iff_ne]; omega
            clear h1 h2
            go_wp2
            go_ret
            exact ⟨by rw [hv.out]; rfl, hb⟩
      · go_wp2
        go_ret
        exact ⟨by rw [valid_of s h0.out (fun j hj => hyes.out j hj (by omega))]; rfl, hb⟩

theorem zzvalid_any (s : ByteArray) (w : World) (hs : s.size ≤ 9000000000) :
    Calls Tryf.prog 10 #[.string s] w fun e w' => e = .returned (.bool (valid s)) ∧ Below w.heap.size w w' := by
  go_enter Tryf.func10, Tryf.ntmps10
  go_wp2_with (go_at_call 18; refine (valid_any _ _ hs).mono ?_; rintro e w' ⟨rfl, hb⟩)
  go_ret
  exact ⟨rfl, hb⟩

theorem bytes8_any (s : ByteArray) (i n : Int) (w : World) (hs : s.size ≤ maxLen) :
    Calls Tryf.prog 8 #[.string s, .int .i64 i, .int .u64 n] w fun e w' => (∃ r : Bool, e = .returned (.bool r)) ∧ w' = w := by
  unfold maxLen at hs
  go_enter Tryf.func8, Tryf.ntmps8
  go_wp2
  all_goals (go_ret; exact ⟨⟨_, rfl⟩, rfl⟩)

theorem bytes11_any (s : ByteArray) (n : Int) (w : World) (hs : s.size ≤ maxLen) :
    Calls Tryf.prog 11 #[.string s, .int .u64 n] w fun e w' => (∃ r : Bool, e = .returned (.bool r)) ∧ w' = w := by
  unfold maxLen at hs
  go_enter Tryf.func11, Tryf.ntmps11
  go_wp2
  all_goals (go_ret; exact ⟨⟨_, rfl⟩, rfl⟩)

end Go.Proofs.Qxb6609152aFmt
