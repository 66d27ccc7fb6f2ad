/-
  The walks of find and of Has.
-/
import Derived.Test.Qxb6614784aFind
namespace Go.Proofs.Qxb6614784a
open Go.RowKit

set_option maxHeartbeats 800000 in
theorem find_any (s : ByteArray) (L : List Nat) (x : Nat) (w : World) (he : IsEnc s L) (hl : s.size ≤ 200000) (hL : L.Pairwise (· < ·)) :
    Calls Try.prog 10 #[.agg #[.string s], .int .i64 x] w fun e w' => ∃ k, e = .returned (.tuple #[.int .i64 (k : Nat), .bool (decide (x ∈ L))]) ∧ Pos L x k ∧ Below w.heap.size w w' := by
  have HE := hideIt he
  have HA := hideIt hL
  clear he hL
  go_enter Try.func10, Try.ntmps10
  go_wp2_with fail
  have cs : BoxS ((w.alloc (.cells #[.string s] 24)).alloc (.cells #[.int .i64 x] 3)) w.heap.size s := by unfold BoxS; simp
  have ci : BoxI ((w.alloc (.cells #[.string s] 24)).alloc (.cells #[.int .i64 x] 3)) (w.heap.size + 1) x := by unfold BoxI; simp
  have hb0 : Below w.heap.size w ((w.alloc (.cells #[.string s] 24)).alloc (.cells #[.int .i64 x] 3)) := ((Below.refl _ _).alloc (Nat.le_refl _) _).alloc (by simp) _
  have hz0 : ((w.alloc (.cells #[.string s] 24)).alloc (.cells #[.int .i64 x] 3)).heap.size = w.heap.size + 2 := by simp
  generalize (w.alloc (.cells #[.string s] 24)).alloc (.cells #[.int .i64 x] 3) = w0 at cs ci hb0 hz0 ⊢
  have HZ := hideIt hz0
  clear hz0
  refine (len_any s L w0 HE.out hl).mono ?_
  rintro e w1 ⟨rfl, hb1⟩
  have cs1 : BoxS w1 w.heap.size s := (hb1.cell (p := ⟨w.heap.size, 0, none⟩) (by show w.heap.size < _; rw [HZ.out]; omega)).trans cs
  have ci1 : BoxI w1 (w.heap.size + 1) x := (hb1.cell (p := ⟨w.heap.size + 1, 0, none⟩) (by show w.heap.size + 1 < _; rw [HZ.out]; omega)).trans ci
  have hb01 := hb0.trans (hb1.mono hb0.size)
  have hz1 : w.heap.size + 2 ≤ w1.heap.size := by have := hb1.size; rw [HZ.out] at this; exact this
  clear cs ci hb0 hb1 HZ
  go_wp2_with fail
  refine (search_any s L x w.heap.size (w.heap.size + 1) w1 HE.out hl HA.out cs1 ci1).mono ?_
  rintro e w2 ⟨k, rfl, hpos, hb2⟩
  have cs2 : BoxS w2 w.heap.size s := (hb2.cell (p := ⟨w.heap.size, 0, none⟩) (by show w.heap.size < _; omega)).trans cs1
  have ci2 : BoxI w2 (w.heap.size + 1) x := (hb2.cell (p := ⟨w.heap.size + 1, 0, none⟩) (by show w.heap.size + 1 < _; omega)).trans ci1
  have hb02 := hb01.trans (hb2.mono hb01.size)
  have hz2 : w.heap.size + 2 ≤ w2.heap.size := Nat.le_trans hz1 hb2.size
  have hmem := hideIt (mem_of_pos HA.out hpos)
  have HP := hideIt hpos
  clear cs1 ci1 hb01 hb2 hz1 hpos
  unfold BoxS at cs2
  unfold BoxI at ci2
  have hls : w.heap.size < w2.heap.size := by omega
  have hli : w.heap.size + 1 < w2.heap.size := by omega
  by_cases hk : k < L.length
  · have hd : decide (k < L.length) = true := decide_eq_true hk
    have hfd : Hid (decide (x ∈ L) = ((L[k] : Int) == (x : Int))) := by
      show _ = _
      by_cases hx : L[k] = x
      · rw [decide_eq_true (hmem.out.mpr ⟨hk, hx⟩), hx, beq_self_eq_true]
      · rw [decide_eq_false (fun h => hx (hmem.out.mp h).2)]
        exact (beq_eq_false_iff_ne.mpr (by omega)).symm
    go_wp2
    go_region_with (first
      | (go_at_call 8; refine (len_any s L _ HE.out hl).mono ?_; rintro e wa ⟨rfl, hba⟩; have csa := (hba.cell (p := ⟨w.heap.size, 0, none⟩) hls).trans cs2; have cia := (hba.cell (p := ⟨w.heap.size + 1, 0, none⟩) hli).trans ci2)
      | (go_at_call 15; refine (at_any s L k _ HE.out hl hk).mono ?_; rintro e wb ⟨rfl, hbb⟩; have cib := (hbb.cell (p := ⟨w.heap.size + 1, 0, none⟩) (Nat.lt_of_lt_of_le hli hba.size)).trans cia))
    all_goals
      go_wp2
      go_ret2
      exact ⟨k, by rw [hfd.out]; rfl, HP.out, hb02.drew.trans ((hba.trans (hbb.mono hba.size)).mono hb02.size)⟩
  · have hd : decide (k < L.length) = false := decide_eq_false hk
    have hno : Hid (decide (x ∈ L) = false) := decide_eq_false (fun h => hk (hmem.out.mp h).1)
    go_wp2
    first | go_region_with (go_at_call 8; refine (len_any s L _ HE.out hl).mono ?_; rintro e wa ⟨rfl, hba⟩; have csa := (hba.cell (p := ⟨w.heap.size, 0, none⟩) hls).trans cs2; have cia := (hba.cell (p := ⟨w.heap.size + 1, 0, none⟩) hli).trans ci2) | fail
    all_goals
      go_wp2
      go_ret2
      exact ⟨k, by rw [hno.out]; rfl, HP.out, hb02.drew.trans (hba.mono hb02.size)⟩

set_option maxHeartbeats 400000 in
theorem has_any (s : ByteArray) (L : List Nat) (x : Nat) (w : World) (he : IsEnc s L) (hl : s.size ≤ 200000) (hL : L.Pairwise (· < ·)) :
    Calls Try.prog 9 #[.agg #[.string s], .int .i64 x] w fun e w' => e = .returned (.bool (decide (x ∈ L))) ∧ Below w.heap.size w w' := by
  have HE := hideIt he
  have HA := hideIt hL
  clear he hL
  go_enter Try.func9, Try.ntmps9
  go_wp2_with fail
  refine (find_any s L x _ HE.out hl HA.out).mono ?_
  rintro e w1 ⟨k, rfl, _, hb1⟩
  have hb2 := ((Below.refl _ _).alloc (Nat.le_refl _) (.cells #[.string s] 24)).trans (hb1.mono (by simp))
  clear hb1
  go_wp2
  go_ret
  exact ⟨rfl, hb2⟩

end Go.Proofs.Qxb6614784a
