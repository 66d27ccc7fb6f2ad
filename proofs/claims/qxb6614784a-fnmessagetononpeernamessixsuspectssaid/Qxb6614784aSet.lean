/-
  The walks of wire.Set's readers: Len, at, find's closure.
-/
import Derived.Test.Qxb6614784aRows
import Derived.Test.Qxb6614784aPlain
import Derived.WalkKit
import Derived.WalkSpells
import Derived.WalkLawsBesides
import Derived.Deep.QuietTactic
import Derived.BigQuiet
import Derived.BigRegion
import Derived.Deep.RegionWith
namespace Go.Proofs.Qxb6614784a
open Go.RowKit

theorem hideIt {p : Prop} (h : p) : Hid p := h
theorem below_draws {B n : Nat} {a w : World} (h : Below B a w) : Below B a (w.drewN n) := ⟨h.os, h.tape, h.output, h.size, h.block⟩

theorem or_i64 (a b : Nat) (ha : a < 65536) (hb : b < 65536) : bits .or .i64 (a : Int) (b : Int) = ((a ||| b : Nat) : Int) := by
  have hx : a ||| b < 2 ^ 16 := Nat.or_lt_two_pow (by omega) (by omega)
  have h1 : (BitVec.ofInt 64 (a : Int)).toNat = a := by
    rw [BitVec.ofInt_natCast, BitVec.toNat_ofNat]; exact Nat.mod_eq_of_lt (by omega)
  have h2 : (BitVec.ofInt 64 (b : Int)).toNat = b := by
    rw [BitVec.ofInt_natCast, BitVec.toNat_ofNat]; exact Nat.mod_eq_of_lt (by omega)
  show IntKind.i64.wrap ((BitVec.ofInt 64 (a : Int) ||| BitVec.ofInt 64 (b : Int)).toNat : Int) = _
  rw [BitVec.toNat_or, h1, h2, IntKind.wrap_i64]
  omega

/-- Two bytes, the higher first, as the walk writes them. -/
theorem two_bytes (a b : Nat) (ha : a < 256) (hb : b < 256) : bits .or .i64 (wrap64 (wrap64 (a : Int) * 256)) (wrap64 (b : Int)) = ((a * 256 + b : Nat) : Int) := by
  have e1 : wrap64 (wrap64 (a : Int) * 256) = ((a * 256 : Nat) : Int) := by unfold wrap64; omega
  have e2 : wrap64 (b : Int) = (b : Int) := by unfold wrap64; omega
  rw [e1, e2, or_i64 _ _ (by omega) (by omega)]
  have h := Nat.two_pow_add_eq_or_of_lt (i := 8) (b := b) (by omega) a
  have e : a * 256 = 2 ^ 8 * a := by omega
  rw [e, ← h]

set_option maxHeartbeats 400000 in
theorem len_any (s : ByteArray) (L : List Nat) (w : World) (he : IsEnc s L) (hl : s.size ≤ 200000) :
    Calls Try.prog 8 #[.agg #[.string s]] w fun e w' => e = .returned (.int .i64 L.length) ∧ Below w.heap.size w w' := by
  obtain ⟨hs, _⟩ := he
  have HS := hideIt hs
  clear hs
  go_enter Try.func8, Try.ntmps8
  go_wp2
  go_ret
  have e : (s.size : Int) / 2 = (L.length : Int) := by have := HS.out; omega
  exact ⟨by first | (rw [← e]; rfl) | (rw [← e]; simp) , (Below.refl _ _).alloc (Nat.le_refl _) _⟩

set_option maxHeartbeats 400000 in
theorem at_any (s : ByteArray) (L : List Nat) (k : Nat) (w : World) (he : IsEnc s L) (hl : s.size ≤ 200000) (hk : k < L.length) :
    Calls Try.prog 15 #[.agg #[.string s], .int .i64 k] w fun e w' => e = .returned (.int .i64 L[k]) ∧ Below w.heap.size w w' := by
  obtain ⟨hs, hv⟩ := he
  have h2k : 2 * k < s.size := by omega
  have h2k1 : 2 * k + 1 < s.size := by omega
  have i1 : (2 : Int) * (k : Int) < (s.size : Int) := by omega
  have i2 : (2 : Int) * (k : Int) + 1 < (s.size : Int) := by omega
  have i0 : (0 : Int) ≤ 2 * (k : Int) := by omega
  have i00 : (0 : Int) ≤ 2 * (k : Int) + 1 := by omega
  have i3 : k < 100000 := by omega
  have HV := hideIt (hv k hk h2k h2k1)
  have hb1 : s[2 * k].toNat < 256 := UInt8.toNat_lt _
  have hb2 : s[2 * k + 1].toNat < 256 := UInt8.toNat_lt _
  have HT := hideIt (two_bytes _ _ hb1 hb2)
  clear hs hl hv hb1 hb2
  go_enter Try.func15, Try.ntmps15
  go_wp2
  go_quiet (fail)
  go_wp2
  go_ret
  refine ⟨?_, below_draws ((Below.refl _ _).alloc (Nat.le_refl _) _)⟩
  rw [← HV.out, ← HT.out]
  rfl

/-- A box that holds a Set, and one that holds an int. -/
def BoxS (w : World) (b : Nat) (s : ByteArray) : Prop := w.cell? ⟨b, 0, none⟩ = some (.string s)
def BoxI (w : World) (b : Nat) (x : Int) : Prop := w.cell? ⟨b, 0, none⟩ = some (.int .i64 x)

theorem cell_lt {w : World} {b : Nat} {v : Value} (h : w.cell? ⟨b, 0, none⟩ = some v) : b < w.heap.size := World.block_lt_of_cell? w ⟨b, 0, none⟩ h

set_option maxHeartbeats 400000 in
theorem find1_any (s : ByteArray) (L : List Nat) (k x : Nat) (bs bi : Nat) (w : World) (he : IsEnc s L) (hl : s.size ≤ 200000) (hk : k < L.length) (h1 : BoxS w bs s) (h2 : BoxI w bi x) :
    Calls Try.prog 14 #[.int .i64 k, .pointer (some ⟨bs, 0, none⟩), .pointer (some ⟨bi, 0, none⟩)] w fun e w' => e = .returned (.bool (decide (x ≤ L[k]))) ∧ Below w.heap.size w w' := by
  unfold BoxS at h1
  unfold BoxI at h2
  have hlt := cell_lt h2
  go_enter Try.func14, Try.ntmps14
  go_wp2
  go_region_with (go_at_call 15; refine (at_any s L k _ he hl hk).mono ?_; rintro e w' ⟨rfl, hb⟩; have h2' := (hb.cell (p := ⟨bi, 0, none⟩) hlt).trans h2)
  all_goals
    go_wp2
    go_ret
    exact ⟨rfl, by first | exact hb | exact (Below.drew (Below.refl _ _)).trans hb⟩

end Go.Proofs.Qxb6614784a
