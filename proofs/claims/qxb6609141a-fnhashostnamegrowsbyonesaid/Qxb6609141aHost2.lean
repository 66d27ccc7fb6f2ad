/-
  The walks of 'ZZb1newContestant', 'hasHostname', 'ZZb1hasHostname'.
-/
import Derived.Test.Qxb6609141aHost
namespace Go.Proofs.Qxb6609141a
open Go.RowKit

set_option maxHeartbeats 400000 in
theorem new_any (a : Option Addr) (n c : Nat) (mv : Option Nat) (w : World) :
    Calls Try.prog 15 #[.slice a n c, .map mv] w fun e w' => e = .returned (.pointer (some ⟨w.heap.size, 0, none⟩)) ∧
      w' = w.alloc (.cells #[.nilIface, .int .i64 0, .int .i64 0, .bool false, .int .i64 0, .int .i64 0, .slice a n c, .map mv] 40) := by
  go_enter Try.func15, Try.ntmps15
  go_wp2
  go_ret
  exact ⟨rfl, rfl⟩

/-- The two cells of a contestant that 'hasHostname' reads. -/
def Cont (w : World) (b : Nat) (v : Value) (mv : Option Nat) : Prop :=
  w.cell? ⟨b, 6, none⟩ = some v ∧ w.cell? ⟨b, 7, none⟩ = some (.map mv)

set_option maxHeartbeats 400000 in
theorem hasSet_any (b : Nat) (v : Value) (m : Nat) (f : ByteArray → Bool) (h : ByteArray) (w : World) (hc : Cont w b v (some m))
    (hlook : (Instr.lookup 27 (.map (some m)) (.string h) false).run Try.prog w = .ok (.bool (f h)) w) :
    Calls Try.prog 18 #[.pointer (some ⟨b, 0, none⟩), .string h] w fun e w' => e = .returned (.bool (f h)) ∧ w' = w := by
  obtain ⟨c6, c7⟩ := hc
  have hneq : ∀ w, (binOp .neq 27 (.map (some m)) (.map none)).run Try.prog w = .ok (.bool true) w := fun w => run_neq_map_nil w 27 9 4 (some m) Try.underlying27
  go_enter Try.func18, Try.ntmps18
  go_wp2
  go_ret
  exact ⟨rfl, rfl⟩

set_option maxHeartbeats 400000 in
theorem hasList_any (b : Nat) (ao : Option Addr) (cap : Nat) (l : List ByteArray) (h : ByteArray) (w : World) (hl : l.length ≤ 1000000) (hc : Cont w b (.slice ao l.length cap) none)
    (ha : l ≠ [] → ∃ b off, ao = some ⟨b, off, none⟩ ∧ ∀ j (h : j < l.length), w.cell? ⟨b, off + j, none⟩ = some (.string l[j])) :
    Calls Try.prog 18 #[.pointer (some ⟨b, 0, none⟩), .string h] w fun e w' => e = .returned (.bool (hasB l h)) ∧ w' = w := by
  obtain ⟨c6, c7⟩ := hc
  have hneq : ∀ w, (binOp .neq 27 (.map none) (.map none)).run Try.prog w = .ok (.bool false) w := fun w => run_neq_map_nil w 27 9 4 none Try.underlying27
  go_enter Try.func18, Try.ntmps18
  go_wp2
  go_loop [23] (fun i => ∃ j : Nat, j ≤ l.length ∧ i = .int .i64 j ∧ Hid (hasB (l.take j) h = false)) (fun i => l.length - (intOf i).toNat)
  case atStart => exact ⟨0, Nat.zero_le _, rfl, rfl⟩
  case round =>
    obtain ⟨j, hj, rfl, hno⟩ := hrel
    by_cases hlt : j < l.length
    · obtain ⟨b1, o1, rfl, c1⟩ := ha (by intro h; rw [h] at hlt; simp at hlt)
      have d1 := c1 j hlt
      clear c1 ha
      go_wp2
      · have he : (l[j].toList == h.toList) = true := by assumption
        go_ret
        exact ⟨by rw [hasB_of_hit l h j hlt he]; rfl, rfl⟩
      · have he : (l[j].toList == h.toList) = false := by assumption
        go_round
        case rel => exact ⟨j + 1, by omega, by go_num, by show _ = _; rw [hasB_succ l h j hlt, hno.out, he]; rfl⟩
        case measure => simp [intOf]; omega
    · go_wp2
      go_ret
      exact ⟨by rw [hasB_of_none l h j (by omega) hno.out]; rfl, rfl⟩

/-- The method through its export: whatever it answers. -/
theorem zzhas_of {p : Value} {h : ByteArray} {r : Bool} {w : World} (hc : Calls Try.prog 18 #[p, .string h] w fun e w' => e = .returned (.bool r) ∧ w' = w) :
    Calls Try.prog 14 #[p, .string h] w fun e w' => e = .returned (.bool r) ∧ w' = w := by
  go_enter Try.func14, Try.ntmps14
  go_wp2_with fail
  refine hc.mono ?_
  rintro e w' ⟨rfl, rfl⟩
  go_wp2
  go_ret
  exact ⟨rfl, rfl⟩

/-- What a contestant answers. -/
def answer (l : List ByteArray) (mv : Option Nat) (f : ByteArray → Bool) (h : ByteArray) : Bool := match mv with | none => hasB l h | some _ => f h

theorem zzhas_any (b : Nat) (ao : Option Addr) (cap : Nat) (l : List ByteArray) (mv : Option Nat) (f : ByteArray → Bool) (h : ByteArray) (w : World) (hl : l.length ≤ 1000000) (hc : Cont w b (.slice ao l.length cap) mv)
    (ha : l ≠ [] → ∃ b off, ao = some ⟨b, off, none⟩ ∧ ∀ j (h : j < l.length), w.cell? ⟨b, off + j, none⟩ = some (.string l[j]))
    (hlook : ∀ m, mv = some m → (Instr.lookup 27 (.map (some m)) (.string h) false).run Try.prog w = .ok (.bool (f h)) w) :
    Calls Try.prog 14 #[.pointer (some ⟨b, 0, none⟩), .string h] w fun e w' => e = .returned (.bool (answer l mv f h)) ∧ w' = w := by
  apply zzhas_of
  cases mv with
  | none => exact hasList_any b ao cap l h w hl hc ha
  | some m => exact hasSet_any b _ m f h w hc (hlook m rfl)

end Go.Proofs.Qxb6609141a
