/-
  The walks of 'zzHasKey', 'zzAddStringBytes', 'zzHostnamesFit', 'ZZb1newContestant', 'hasHostname'.
-/
import Derived.Test.Qxb6609141aDomWalks
import Derived.Maps.OwnSet
namespace Go.Proofs.Qxb6609141a
open Go.RowKit

/-- Is k one of l? -/
def hasB (l : List ByteArray) (k : ByteArray) : Bool := l.any (fun x => x.toList == k.toList)

theorem hasB_succ (l : List ByteArray) (k : ByteArray) (j : Nat) (h : j < l.length) : hasB (l.take (j + 1)) k = (hasB (l.take j) k || (l[j].toList == k.toList)) := by
  unfold hasB
  rw [List.take_succ_eq_append_getElem h, List.any_append]; simp

theorem hasB_of_hit (l : List ByteArray) (k : ByteArray) (j : Nat) (h : j < l.length) (he : (l[j].toList == k.toList) = true) : hasB l k = true := by
  unfold hasB
  exact List.any_eq_true.mpr ⟨l[j], List.getElem_mem h, he⟩

theorem hasB_of_none (l : List ByteArray) (k : ByteArray) (j : Nat) (h : l.length ≤ j) (he : hasB (l.take j) k = false) : hasB l k = false := by
  rw [List.take_of_length_le h] at he; exact he

theorem hasB_iff (l : List ByteArray) (k : ByteArray) : hasB l k = true ↔ k ∈ l := by
  unfold hasB
  rw [List.any_eq_true]
  constructor
  · rintro ⟨x, hx, he⟩
    rw [beq_iff_eq, ByteArray.toList_eq, ByteArray.toList_eq] at he
    rw [← bytes_ext he]; exact hx
  · intro h
    exact ⟨k, h, beq_self_eq_true _⟩

set_option maxHeartbeats 400000 in
theorem hasKey_any (v : Value) (l : List ByteArray) (k : ByteArray) (w : World) (hl : l.length ≤ 1000000) (hr : Row w v l) :
    Calls Try.prog 16 #[v, .string k] w fun e w' => e = .returned (.bool (hasB l k)) ∧ w' = w := by
  obtain ⟨a, ca, rfl, ha⟩ := hr
  go_enter Try.func16, Try.ntmps16
  go_wp2
  go_loop [8] (fun i => ∃ j : Nat, j ≤ l.length ∧ i = .int .i64 j ∧ Hid (hasB (l.take j) k = false)) (fun i => l.length - (intOf i).toNat)
  case atStart => exact ⟨0, Nat.zero_le _, rfl, rfl⟩
  case round =>
    obtain ⟨j, hj, rfl, hno⟩ := hrel
    by_cases hlt : j < l.length
    · obtain ⟨b1, o1, rfl, c1⟩ := ha (by intro h; rw [h] at hlt; simp at hlt)
      have d1 := c1 j hlt
      clear c1 ha
      go_wp2
      · have h : (l[j].toList == k.toList) = true := by assumption
        go_ret
        exact ⟨by rw [hasB_of_hit l k j hlt h]; rfl, rfl⟩
      · have h : (l[j].toList == k.toList) = false := by assumption
        go_round
        case rel => exact ⟨j + 1, by omega, by go_num, by show _ = _; rw [hasB_succ l k j hlt, hno.out, h]; rfl⟩
        case measure => simp [intOf]; omega
    · go_wp2
      go_ret
      exact ⟨by rw [hasB_of_none l k j (by omega) hno.out]; rfl, rfl⟩

set_option maxHeartbeats 400000 in
theorem addBytes_any (n : Int) (v : Value) (l : List ByteArray) (w : World) (hl : l.length ≤ 1000000) (hr : Row w v l) :
    Calls Try.prog 12 #[.int .i64 n, v] w fun e w' => (∃ r, e = .returned (.int .i64 r)) ∧ w' = w := by
  obtain ⟨a, ca, rfl, ha⟩ := hr
  go_enter Try.func12, Try.ntmps12
  go_wp2
  go_loop [0, 8] (fun n i => ∃ (r : Int) (j : Nat), j ≤ l.length ∧ i = .int .i64 j ∧ n = .int .i64 r) (fun _ i => l.length - (intOf i).toNat)
  case atStart => exact ⟨n, 0, Nat.zero_le _, rfl, rfl⟩
  case round =>
    obtain ⟨r, j, hj, rfl, rfl⟩ := hrel
    by_cases hlt : j < l.length
    · obtain ⟨b1, o1, rfl, c1⟩ := ha (by intro h; rw [h] at hlt; simp at hlt)
      have d1 := c1 j hlt
      clear c1 ha
      go_wp2
      · go_ret
        exact ⟨⟨_, rfl⟩, rfl⟩
      · go_round
        case rel => exact ⟨_, j + 1, by omega, by go_num, rfl⟩
        case measure => simp [intOf]; omega
    · go_wp2
      go_ret
      exact ⟨⟨_, rfl⟩, rfl⟩

/-- w' holds the map's block as w does. -/
def Kept (w w' : World) (mv : Option Nat) : Prop := ∀ b, mv = some b → w'.heap[b]? = w.heap[b]?

/-- What the walks are told of the map that came in: what it answers at a key, in a world in which its block is as it was; its length; that a key at which it answers true is one of as many keys as it has entries. -/
structure MapFact (w : World) (mv : Option Nat) (f : ByteArray → Bool) (ks : List ByteArray) : Prop where
  look : ∀ w', Kept w w' mv → ∀ s : ByteArray, s.size ≤ maxLen → (Instr.lookup 27 (.map mv) (.string s) false).run Try.prog w' = .ok (.bool (f s)) w'
  len : ∀ w', Kept w w' mv → ∀ ty, (Builtin.len_ #[27] ty #[.map mv]).run Try.prog w' = .ok (.int .i64 ks.length) w'
  mem : ∀ s, f s = true → s ∈ ks
  small : ks.length ≤ maxLen
  lt : ∀ b, mv = some b → b < w.heap.size

/-- A prefix of a row. -/
theorem Row.pre {w : World} {ao : Option Addr} {cap n : Nat} {l : List ByteArray} (h : l ≠ [] → ∃ b off, ao = some ⟨b, off, none⟩ ∧ ∀ j (h : j < l.length), w.cell? ⟨b, off + j, none⟩ = some (.string l[j])) (hn : n ≤ l.length) :
    Row w (.slice ao n cap) (l.take n) := by
  refine ⟨ao, cap, by rw [List.length_take, Nat.min_eq_left hn], fun hne => ?_⟩
  obtain ⟨b, off, rfl, hc⟩ := h (by rintro rfl; simp at hne)
  refine ⟨b, off, rfl, fun j hj => ?_⟩
  rw [List.length_take] at hj
  rw [hc j (by omega)]; simp

/-- What 'zzHostnamesFit' has found when it says yes. -/
def Fits (l : List ByteArray) (mv : Option Nat) (f : ByteArray → Bool) (ks : List ByteArray) : Prop :=
  (∀ j (h : j < l.length), hasB (l.take j) l[j] = false) ∧ (mv ≠ none → ks.length = l.length ∧ ∀ j (h : j < l.length), f l[j] = true)

/-- How 'zzHostnamesFit' ends (behind a name: the walk takes a bare 'there is a Bool' apart). -/
def FitEnd (l : List ByteArray) (mv : Option Nat) (f : ByteArray → Bool) (ks : List ByteArray) (e : Ending) : Prop := ∃ r : Bool, e = .returned (.bool r) ∧ (r = true → Fits l mv f ks)

set_option maxHeartbeats 800000 in
theorem fit_any (ao : Option Addr) (cap : Nat) (l : List ByteArray) (mv : Option Nat) (f : ByteArray → Bool) (ks : List ByteArray) (w : World) (hl : l.length ≤ 1000000) (hcap : l.length ≤ cap)
    (ha : l ≠ [] → ∃ b off, ao = some ⟨b, off, none⟩ ∧ ∀ j (h : j < l.length), w.cell? ⟨b, off + j, none⟩ = some (.string l[j])) (hs : ∀ x ∈ l, x.size ≤ maxLen) (hm : MapFact w mv f ks) :
    Calls Try.prog 13 #[.slice ao l.length cap, .map mv] w fun e w' => FitEnd l mv f ks e ∧ ∃ n, w' = w.drewN n := by
  have hsm : (ks.length : Int) ≤ 9223372036854775807 := by have := hm.small; unfold maxLen at this; omega
  have hlen : ∀ nq ty, (Builtin.len_ #[27] ty #[.map mv]).run Try.prog (w.drewN nq) = .ok (.int .i64 ks.length) (w.drewN nq) := fun nq ty => hm.len (w.drewN nq) (fun _ _ => rfl) ty
  have hneq : ∀ w, (binOp .neq 27 (.map mv) (.map none)).run Try.prog w = .ok (.bool (!mv.isNone)) w := fun w => run_neq_map_nil w 27 9 4 mv Try.underlying27
  go_enter Try.func13, Try.ntmps13
  go_wp2
  go_loopw [9] (fun i wr => ∃ k : Nat, k ≤ l.length ∧ i = .int .i64 k ∧ Hid (∀ j (h : j < l.length), j < k → hasB (l.take j) l[j] = false) ∧ ∃ n, wr = w.drewN n)
    (fun i _ => l.length - (intOf i).toNat)
  case atStart => exact ⟨0, Nat.zero_le _, rfl, fun _ _ h => by omega, 0, rfl⟩
  case round =>
    obtain ⟨k, hk, rfl, hno, n, hn⟩ := hrel
    by_cases hlt : k < l.length
    · obtain ⟨b1, o1, rfl, c1⟩ := ha (by intro h; rw [h] at hlt; simp at hlt)
      have d1 : wr.cell? ⟨b1, o1 + k, none⟩ = some (.string l[k]) := by rw [hn]; exact c1 k hlt
      have hrow : ∀ m, Row (wr.drewN m) (.slice (some ⟨b1, o1, none⟩) k cap) (l.take k) := fun m => Row.pre (w := wr.drewN m) (fun _ => ⟨b1, o1, rfl, by rw [hn]; exact c1⟩) hk
      have htl : (l.take k).length ≤ 1000000 := by rw [List.length_take]; omega
      have hkc : k ≤ cap := by omega
      have hkc' : (k : Int) ≤ (cap : Int) := by omega
      have HN : Hid (wr = w.drewN n) := hn
      clear hlen hneq c1 hn
      go_wp2
      go_quiet ((go_at_call 16; exact Calls.quiet_of_same (hasKey_any _ (l.take k) l[k] _ htl (hrow _))))
      go_wp2
      · go_ret
        exact ⟨⟨_, rfl, by intro h; cases h⟩, _, by rw [HN.out, World.drewN_drewN]⟩
      · have h0 : hasB (l.take k) l[k] = false := by assumption
        go_roundw
        case rel =>
          refine ⟨k + 1, by omega, by go_num, ?_, _, by rw [HN.out, World.drewN_drewN]⟩
          intro j hj hjk
          by_cases h : j = k
          · subst h; exact h0
          · exact hno.out j hj (by omega)
        case measure => simp [intOf]; omega
    · have hall : Hid (∀ j (h : j < l.length), hasB (l.take j) l[j] = false) := fun j h => hno.out j h (by omega)
      subst hn
      clear hno
      have hlook : Hid (∀ s : ByteArray, s.size ≤ maxLen → (Instr.lookup 27 (.map mv) (.string s) false).run Try.prog (w.drewN n) = .ok (.bool (f s)) (w.drewN n)) := fun s hs => hm.look (w.drewN n) (fun _ _ => rfl) s hs
      go_wp2
      · go_ret
        exact ⟨⟨_, rfl, by intro h; cases h⟩, _, rfl⟩
      · have hle : Hid (ks.length = l.length) := by
          have h0 : ((ks.length : Int) != (l.length : Int)) = false := by assumption
          have h1 : (ks.length : Int) = (l.length : Int) := by simpa using h0
          show _ = _
          omega
        clear hlen hneq
        go_loop [30] (fun i => ∃ k : Nat, k ≤ l.length ∧ i = .int .i64 k ∧ Hid (∀ j (h : j < l.length), j < k → f l[j] = true)) (fun i => l.length - (intOf i).toNat)
        case atStart => exact ⟨0, Nat.zero_le _, rfl, fun _ _ h => by omega⟩
        case round =>
          obtain ⟨k, hk, rfl, hyes⟩ := hrel
          by_cases hlt : k < l.length
          · obtain ⟨b1, o1, rfl, c1⟩ := ha (by intro h; rw [h] at hlt; simp at hlt)
            have d1 := c1 k hlt
            have hlk := hlook.out l[k] (hs _ (List.getElem_mem hlt))
            clear c1 ha
            go_wp2
            · go_ret
              exact ⟨⟨_, rfl, by intro h; cases h⟩, _, rfl⟩
            · have h0 : (!f l[k]) = false := by assumption
              go_round
              case rel =>
                refine ⟨k + 1, by omega, by go_num, ?_⟩
                intro j hj hjk
                by_cases h : j = k
                · subst h; simpa using h0
                · exact hyes.out j hj (by omega)
              case measure => simp [intOf]; omega
          · go_wp2
            go_ret
            exact ⟨⟨_, rfl, fun _ => ⟨hall.out, fun _ => ⟨hle.out, fun j hj => hyes.out j hj (by omega)⟩⟩⟩, _, rfl⟩
      · have hnone : mv = none := by
          have h0 : mv.isSome = false := by assumption
          simpa using h0
        go_ret
        exact ⟨⟨_, rfl, fun _ => ⟨hall.out, fun h => absurd hnone h⟩⟩, _, rfl⟩

end Go.Proofs.Qxb6609141a
