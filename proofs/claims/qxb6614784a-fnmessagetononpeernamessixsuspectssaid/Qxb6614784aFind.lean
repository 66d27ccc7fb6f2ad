/-
  The walks of sort.Search at find's closure, of find and of Has.
-/
import Derived.Test.Qxb6614784aSet
namespace Go.Proofs.Qxb6614784a
open Go.RowKit

set_option maxHeartbeats 800000 in
theorem search_any (s : ByteArray) (L : List Nat) (x : Nat) (bs bi : Nat) (w : World) (he : IsEnc s L) (hl : s.size ≤ 200000) (hL : L.Pairwise (· < ·)) (h1 : BoxS w bs s) (h2 : BoxI w bi x) :
    Calls Try.prog 13 #[.int .i64 L.length, .func (.func 14) #[] #[.pointer (some ⟨bs, 0, none⟩), .pointer (some ⟨bi, 0, none⟩)]] w fun e w' => ∃ k, e = .returned (.int .i64 (k : Nat)) ∧ Pos L x k ∧ Below w.heap.size w w' := by
  have hll : L.length ≤ 100000 := by have := he.1; omega
  have hl1 := cell_lt h1
  have hl2 := cell_lt h2
  have HE := hideIt he
  have HA := hideIt hL
  clear he hL
  go_enter Try.func13, Try.ntmps13
  go_wp2
  go_loopw [5, 6] (fun a b wr => ∃ i j : Nat, i ≤ j ∧ j ≤ L.length ∧ a = .int .i64 i ∧ b = .int .i64 j ∧ Hid (∀ t (h : t < L.length), t < i → L[t] < x) ∧ Hid (∀ t (h : t < L.length), j ≤ t → x ≤ L[t]) ∧ Below w.heap.size w wr)
    (fun a b _ => (intOf b).toNat - (intOf a).toNat)
  case atStart => exact ⟨0, L.length, Nat.zero_le _, Nat.le_refl _, rfl, rfl, fun _ _ h => by omega, fun _ _ h => by omega, Below.refl _ _⟩
  case round =>
    obtain ⟨i, j, hij, hj, rfl, rfl, hlo, hhi, hb⟩ := hrel
    by_cases hlt : i < j
    · obtain ⟨m, hm⟩ : ∃ m : Nat, ((i : Int) + (j : Int)) / 2 = (m : Int) := ⟨(i + j) / 2, by omega⟩
      have hm1 : i ≤ m := by omega
      have hm2 : m < j := by omega
      have hm3 : m < L.length := by omega
      have HM := hideIt hm
      clear hm
      have c1 : BoxS wr bs s := (hb.cell (p := ⟨bs, 0, none⟩) hl1).trans h1
      have c2 : BoxI wr bi x := (hb.cell (p := ⟨bi, 0, none⟩) hl2).trans h2
      go_wp2_with fail
      rw [HM.out]
      refine (find1_any s L m x bs bi wr HE.out hl hm3 c1 c2).mono ?_
      rintro e w2 ⟨rfl, hb2⟩
      have hb3 := hb.trans (hb2.mono hb.size)
      clear c1 c2 hb2 HM
      by_cases hx : x ≤ L[m]
      · have hd : decide (x ≤ L[m]) = true := decide_eq_true hx
        have hhi2 : Hid (∀ t (h : t < L.length), m ≤ t → x ≤ L[t]) := fun t h ht => Nat.le_trans hx (asc_le HA.out h ht)
        clear hx
        go_wp2
        go_roundw
        case rel => exact ⟨i, m, hm1, by omega, rfl, rfl, hlo, hhi2, hb3⟩
        case measure => simp [intOf]; omega
      · have hd : decide (x ≤ L[m]) = false := decide_eq_false hx
        have hlo2 : Hid (∀ t (h : t < L.length), t < m + 1 → L[t] < x) := fun t h ht => Nat.lt_of_le_of_lt (asc_le HA.out hm3 (by omega)) (by omega)
        clear hx
        go_wp2
        go_roundw
        case rel => exact ⟨m + 1, j, by omega, hj, by go_num, rfl, hlo2, hhi, hb3⟩
        case measure => simp [intOf]; omega
    · go_wp2
      go_ret
      exact ⟨i, rfl, ⟨by omega, hlo.out, fun t h ht => hhi.out t h (by omega)⟩, hb⟩

end Go.Proofs.Qxb6614784a
