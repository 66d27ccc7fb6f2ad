/-
  The walk of 'swapASCIICase'.
-/
import Derived.Test.Qxb6609152aFmtRows
import Derived.Test.Qxb6609152aFmtPlain
import Derived.WalkKit
import Derived.WalkSpells
import Derived.WalkLawsBesides
import Derived.Laws.IdiomStrings
import Derived.Deep.OwnRows
namespace Go.Proofs.Qxb6609152aFmt
open Go.RowKit

theorem Tryf.info5 : (Tryf.prog.info? 5).map (fun i => (i.zero, i.size, i.bytes)) = some (some (.int .u8 0), 1, 1) := by kernel_rfl

/-- The case of a letter swapped. -/
def swapN (c : Nat) : Nat := if 97 ≤ c ∧ c ≤ 122 then c - 32 else if 65 ≤ c ∧ c ≤ 90 then c + 32 else c
def swapU (c : UInt8) : UInt8 := UInt8.ofNat (swapN c.toNat)
def swapS (s : ByteArray) : ByteArray := ⟨(s.data.toList.map swapU).toArray⟩

theorem swapU_toNat (c : UInt8) : (swapU c).toNat = swapN c.toNat := by
  have h : c.toNat < 256 := UInt8.toNat_lt c
  unfold swapU
  rw [UInt8.toNat_ofNat']
  apply Nat.mod_eq_of_lt
  unfold swapN
  split
  · omega
  · split <;> omega

/-- What the cells of b hold when the counter stands at k. -/
def cellF (s : ByteArray) (k j : Nat) : Value := .int .u8 (if j < k then (swapN (s.data.toList.getD j 0).toNat : Int) else 0)

theorem cellF_step {s : ByteArray} {k : Nat} {B : Nat} {wr : World} {v : Int} (hk : k < s.size) (hv : v = (swapN s[k].toNat : Int)) (h : wr.rowIs B 5 s.size (cellF s k)) :
    (wr.setCell ⟨B, k, none⟩ (.int .u8 v)).rowIs B 5 s.size (cellF s (k + 1)) := by
  refine (h.set k (.int .u8 v)).congr fun j hj => ?_
  have e : (s.data.toList.getD k 0) = s[k] := by
    rw [List.getD_eq_getElem?_getD, List.getElem?_eq_getElem (by simpa using hk)]; rfl
  by_cases hjk : j = k
  · subst hjk
    simp only [if_true, cellF]
    rw [if_pos (by omega), e, hv]
  · simp only [if_neg hjk, cellF]
    by_cases h1 : j < k
    · rw [if_pos h1, if_pos (by omega)]
    · rw [if_neg h1, if_neg (by omega)]

set_option maxHeartbeats 800000 in
theorem swap_any (s : ByteArray) (w : World) (hs : s.size ≤ 9000000000) :
    Calls Tryf.prog 12 #[.string s] w fun e w' => e = .returned (.string (swapS s)) ∧ Below w.heap.size w w' := by
  have hmk := run_make_row' (P := Tryf.prog) 36 5 (.int .u8 0) 1 Tryf.underlying36 Tryf.info5 rfl .i64 .i64 s.size (by omega) (by omega)
  go_enter Tryf.func12, Tryf.ntmps12
  go_wp2
  clear hmk
  go_loopw [4] (fun i wr => ∃ k : Nat, k ≤ s.size ∧ i = .int .i64 k ∧ wr.rowIs w.heap.size 5 s.size (cellF s k) ∧ Below w.heap.size w wr) (fun i _ => s.size - (intOf i).toNat)
  case atStart => exact ⟨0, Nat.zero_le _, rfl, (World.rowIs_made w _ _ _).congr (fun j _ => rfl), (Below.refl _ _).alloc (Nat.le_refl _) _⟩
  case round =>
    obtain ⟨k, hk, rfl, hrow, hb⟩ := hrel
    by_cases hlt : k < s.size
    · have hc255 : s[k].toNat < 256 := UInt8.toNat_lt _
      have hcell := hrow.cell hlt
      have hfz := hrow.frozen k
      go_wp2
      all_goals
        go_roundw
        case rel =>
          refine ⟨k + 1, by omega, by go_num, cellF_step hlt ?_ hrow, hb.setCell (Nat.le_refl _) _⟩
          unfold swapN
          split
          · omega
          · split <;> omega
        case measure => simp [intOf]; omega
    · have hke : k = s.size := by omega
      subst hke
      have hll : (s.data.toList.map swapU).length = s.size := by rw [List.length_map, Array.length_toList]; rfl
      have hcv := run_convert_bytes_back (P := Tryf.prog) wr 36 9 5 ⟨w.heap.size, 0, none⟩ s.size (s.data.toList.map swapU) Tryf.underlying36 Tryf.underlying5 Tryf.underlying9 (fun j hj => by
        have hj2 : j < s.size := by omega
        rw [Go.WideShapes.add_plain, Nat.zero_add, hrow.cell hj2]
        unfold cellF
        rw [if_pos hj2, List.getD_eq_getElem?_getD, List.getElem?_eq_getElem (by simpa using hj2), List.getElem_map, swapU_toNat]
        rfl)
      rw [hll] at hcv
      have hcv2 : (convert 36 9 (.slice (some ⟨w.heap.size, 0, none⟩) s.size s.size)).run Tryf.prog wr = .ok (.string (swapS s)) wr := hcv
      clear hcv hrow hll
      go_wp2
      go_ret
      exact ⟨rfl, hb⟩

end Go.Proofs.Qxb6609152aFmt
