/-
  The walk of 'FnMessageToNonPeerNamesEveryLowSuspect'.
-/
import Derived.Test.Qxb6614784aMessage
import Derived.Test.Qxb6614784aWith
namespace Go.Proofs.Qxb6614784a
open Go.RowKit

/-- Bit y of mask, as the Go text asks it. -/
def tst (mask : Int) (y : Nat) : Bool := bits .and .u64 (mask / 2 ^ y) 1 == 1

set_option maxHeartbeats 1600000 in
theorem low_any (self life round to mask : Int) (w : World) (h3 : (Lit.int .u64 to).wf = true) (h4 : (Lit.int .u64 mask).wf = true) :
    Calls Try.prog 3 #[.int .u64 self, .int .u64 life, .int .u64 round, .int .u64 to, .int .u64 mask] w fun e w' => e = .returned (.bool true) ∧ Below w.heap.size w w' := by
  have m0 : 0 ≤ mask := by
    have h := h4
    have e : IntKind.u64.min = 0 := rfl
    simp [Lit.wf] at h
    omega
  have H3 := hideIt h3
  clear h3 h4
  go_enter Try.func3, Try.ntmps3
  go_wp2
  go_loopw [12, 13] (fun n i wr => ∃ (k : Nat) (s : ByteArray) (L : List Nat), k ≤ 64 ∧ i = .int .i64 k ∧ n = .int .i64 L.length ∧ Hid (IsEnc s L) ∧ Hid (L.Pairwise (· < ·)) ∧ Hid (∀ y, y ∈ L ↔ y < k ∧ tst mask y = true) ∧ L.length ≤ k ∧ wr.cell? ⟨w.heap.size, 0, none⟩ = some (.string s) ∧ wr.frozen? ⟨w.heap.size, 0, none⟩ = false ∧ Below w.heap.size w wr)
    (fun _ i _ => 64 - (intOf i).toNat)
  case atStart => exact ⟨0, ⟨#[]⟩, [], Nat.zero_le _, rfl, rfl, ⟨rfl, fun k h => by simp at h⟩, List.Pairwise.nil, fun y => ⟨fun h => by simp at h, fun h => by omega⟩, Nat.le_refl _, by simp, by simp, (Below.refl _ _).alloc (Nat.le_refl _) _⟩
  case round =>
    obtain ⟨k, s, L, hk, rfl, rfl, HE, HA, HM, hlen, hc, hf, hb⟩ := hrel
    have hss : s.size ≤ 128 := by have := HE.out.1; omega
    by_cases hlt : k < 64
    · have hB : w.heap.size < wr.heap.size := World.block_lt_of_cell? wr ⟨w.heap.size, 0, none⟩ hc
      have hnk : Hid (¬ k ∈ L) := fun h => by have := (HM.out k).mp h; omega
      go_wp2_with fail
      · have ht : tst mask k = true := by
          have h : (bits BinOp.and IntKind.u64 (mask / 2 ^ k) 1 == 1) = true := by assumption
          exact h
        refine (with_any s L k wr HE.out (by omega) HA.out (by omega)).mono ?_
        rintro e w1 ⟨t, L', rfl, he', hins, hb1⟩
        obtain ⟨hL', hmem', hlen'⟩ := hins
        rw [if_neg hnk.out] at hlen'
        have hc1 := (hb1.cell (p := ⟨w.heap.size, 0, none⟩) hB).trans hc
        have hf1 := (hb1.frozen (p := ⟨w.heap.size, 0, none⟩) hB).trans hf
        have hb01 := hb.trans (hb1.mono hb.size)
        have HE' := hideIt he'
        have HA' := hideIt hL'
        have HL' := hideIt hlen'
        have HM' : Hid (∀ y, y ∈ L' ↔ y < k + 1 ∧ tst mask y = true) := by
          intro y
          rw [hmem', HM.out y]
          constructor
          · rintro (rfl | h)
            · exact ⟨by omega, ht⟩
            · exact ⟨by omega, h.2⟩
          · rintro ⟨h, h'⟩
            by_cases e : y = k
            · exact .inl e
            · exact .inr ⟨by omega, h'⟩
        clear he' hL' hlen' hmem' hc hf hb hb1 ht
        go_wp2
        go_roundw
        case rel => exact ⟨k + 1, t, L', by omega, by go_num, by rw [HL'.out]; go_num, HE', HA', HM', by rw [HL'.out]; omega, World.cell?_setCell_same _ _ _ hc1, (World.frozen?_setCell _ _ _ _).trans hf1, hb01.setCell (p := ⟨w.heap.size, 0, none⟩) (Nat.le_refl _) _⟩
        case measure => simp [intOf]; omega
      · have ht : tst mask k = false := by
          have h : (bits BinOp.and IntKind.u64 (mask / 2 ^ k) 1 == 1) = false := by assumption
          exact h
        have HM' : Hid (∀ y, y ∈ L ↔ y < k + 1 ∧ tst mask y = true) := by
          intro y
          rw [HM.out y]
          constructor
          · rintro ⟨h, h'⟩; exact ⟨by omega, h'⟩
          · rintro ⟨h, h'⟩
            refine ⟨?_, h'⟩
            by_cases e : y = k
            · subst e; rw [ht] at h'; cases h'
            · omega
        go_roundw
        case rel => exact ⟨k + 1, s, L, by omega, by go_num, rfl, HE, HA, HM', by omega, hc, hf, hb⟩
        case measure => simp [intOf]; omega
    · have hke : k = 64 := by omega
      subst hke
      have hroom : Hid (Room self life round L) := .inl fun x hx => ((HM.out x).mp hx).1
      go_wp2_with fail
      refine (new_any self life round s wr).mono ?_
      rintro e w1 ⟨bd, rfl, hdet, hb1⟩
      have hb01 := hb.trans (hb1.mono hb.size)
      clear hc hf hb hb1
      go_wp2_with fail
      refine (message_any self life round to s L bd w1 HE.out (by omega) hroom.out H3.out hdet).mono ?_
      rintro e w2 ⟨rfl, hb2⟩
      have hb02 := hb01.trans (hb2.mono hb01.size)
      clear hdet hb2 hb01
      go_wp2_with fail
      refine (len_any s L _ HE.out (by omega)).mono ?_
      rintro e w3 ⟨rfl, hb3⟩
      have hc3 : w3.cell? ⟨w2.heap.size, 5, none⟩ = some (.string s) := (hb3.cell (p := ⟨w2.heap.size, 5, none⟩) (by simp)).trans (by simp)
      have hb03 : Below w.heap.size w w3 := (hb02.alloc hb02.size _).trans (hb3.mono ((hb02.alloc hb02.size _).size))
      generalize hB : w2.heap.size = B at hc3 hb3 ⊢
      clear hb3 hb02 hB
      have hHas : Hid (∀ k : Nat, k < 64 → decide (k ∈ L) = (bits .and .u64 (mask / 2 ^ k) 1 == 1)) := fun k hk => by
        have h := HM.out k
        have e : tst mask k = (bits .and .u64 (mask / 2 ^ k) 1 == 1) := rfl
        rw [← e]
        cases ht : tst mask k
        · exact decide_eq_false fun h' => by have := (h.mp h').2; rw [ht] at this; cases this
        · exact decide_eq_true (h.mpr ⟨hk, ht⟩)
      clear hroom hlt hk HM
      go_wp2_with fail
      go_loopw [16] (fun i wr => ∃ k : Nat, k ≤ 64 ∧ i = .int .i64 k ∧ wr.cell? ⟨B, 5, none⟩ = some (.string s) ∧ B < wr.heap.size ∧ Below w.heap.size w wr)
        (fun i _ => 64 - (intOf i).toNat)
      case atStart => exact ⟨0, Nat.zero_le _, rfl, hc3, World.block_lt_of_cell? _ _ hc3, hb03⟩
      case round =>
        obtain ⟨k, hk, rfl, hc, hB, hb⟩ := hrel
        by_cases hlt : k < 64
        · have hH := hideIt (hHas.out k hlt)
          go_wp2_with fail
          refine (has_any s L k wr HE.out (by omega) HA.out).mono ?_
          rintro e w4 ⟨rfl, hb4⟩
          rw [hH.out]
          have hc4 := (hb4.cell (p := ⟨B, 5, none⟩) hB).trans hc
          have hb04 := hb.trans (hb4.mono hb.size)
          clear hb4 hc hb hB hH
          go_wp2_with fail
          all_goals go_roundw
          all_goals first | exact ⟨k + 1, by omega, by go_num, hc4, World.block_lt_of_cell? _ _ hc4, hb04⟩ | (simp [intOf]; omega)
        · have hke : k = 64 := by omega
          subst hke
          go_wp2_with fail
          go_ret
          exact ⟨rfl, hb⟩

end Go.Proofs.Qxb6614784a
