/-
  The walk of With.
-/
import Derived.Test.Qxb6614784aFind2
import Derived.Laws.IdiomStrings
namespace Go.Proofs.Qxb6614784a
open Go.RowKit

theorem run_pair (x : Nat) (hx : x ≤ 65535) (w : World) : (convert 39 9 (.slice (some ⟨w.heap.size, 0, none⟩) 2 2)).run Try.prog (w.alloc (.cells #[.int .u8 ((x : Int) / 256), .int .u8 ((x : Int) % 256)] 5)).drew =
    .ok (.string (pair x)) (w.alloc (.cells #[.int .u8 ((x : Int) / 256), .int .u8 ((x : Int) % 256)] 5)).drew := by
  refine run_convert_bytes_back (P := Try.prog) _ 39 9 5 ⟨w.heap.size, 0, none⟩ 2 [UInt8.ofNat (x / 256), UInt8.ofNat (x % 256)] Try.underlying39 Try.underlying5 Try.underlying9 ?_
  intro j hj
  have h1 : (UInt8.ofNat (x / 256)).toNat = x / 256 := by rw [UInt8.toNat_ofNat']; omega
  have h2 : (UInt8.ofNat (x % 256)).toNat = x % 256 := by rw [UInt8.toNat_ofNat']; omega
  match j, hj with
  | 0, _ => simp [Addr.add, h1]
  | 1, _ => simp [Addr.add, h2]

set_option maxHeartbeats 1600000 in
theorem with_any (s : ByteArray) (L : List Nat) (x : Nat) (w : World) (he : IsEnc s L) (hl : s.size ≤ 100000) (hL : L.Pairwise (· < ·)) (hx : x ≤ 65535) :
    Calls Try.prog 5 #[.agg #[.string s], .int .i64 x] w fun e w' => ∃ t L', e = .returned (.agg #[.string t]) ∧ IsEnc t L' ∧ Ins L x L' ∧ Below w.heap.size w w' := by
  have HE := hideIt he
  have HA := hideIt hL
  clear he hL
  go_enter Try.func5, Try.ntmps5
  go_wp2_with fail
  have cs : BoxS ((w.alloc (.cells #[.string s] 24)).alloc (.cells #[.string ⟨#[]⟩] 24)) w.heap.size s := by unfold BoxS; simp
  have cr : BoxS ((w.alloc (.cells #[.string s] 24)).alloc (.cells #[.string ⟨#[]⟩] 24)) (w.heap.size + 1) ⟨#[]⟩ := by unfold BoxS; simp
  have fr : ((w.alloc (.cells #[.string s] 24)).alloc (.cells #[.string ⟨#[]⟩] 24)).frozen? ⟨w.heap.size + 1, 0, none⟩ = false := by simp
  have hb0 : Below w.heap.size w ((w.alloc (.cells #[.string s] 24)).alloc (.cells #[.string ⟨#[]⟩] 24)) := ((Below.refl _ _).alloc (Nat.le_refl _) _).alloc (by simp) _
  have hz0 : ((w.alloc (.cells #[.string s] 24)).alloc (.cells #[.string ⟨#[]⟩] 24)).heap.size = w.heap.size + 2 := by simp
  generalize (w.alloc (.cells #[.string s] 24)).alloc (.cells #[.string ⟨#[]⟩] 24) = w0 at cs cr fr hb0 hz0 ⊢
  have HZ := hideIt hz0
  clear hz0
  refine (find_any s L x w0 HE.out (by omega) HA.out).mono ?_
  rintro e w1 ⟨k, rfl, hpos, hb1⟩
  have l1 : w.heap.size < w0.heap.size := by rw [HZ.out]; omega
  have l2 : w.heap.size + 1 < w0.heap.size := by rw [HZ.out]; omega
  have cs1 : BoxS w1 w.heap.size s := (hb1.cell (p := ⟨w.heap.size, 0, none⟩) l1).trans cs
  have cr1 : BoxS w1 (w.heap.size + 1) ⟨#[]⟩ := (hb1.cell (p := ⟨w.heap.size + 1, 0, none⟩) l2).trans cr
  have fr1 : w1.frozen? ⟨w.heap.size + 1, 0, none⟩ = false := (hb1.frozen (p := ⟨w.heap.size + 1, 0, none⟩) l2).trans fr
  have hb01 := hb0.trans (hb1.mono hb0.size)
  have l1' : w.heap.size < w1.heap.size := Nat.lt_of_lt_of_le l1 hb1.size
  have l2' : w.heap.size + 1 < w1.heap.size := Nat.lt_of_lt_of_le l2 hb1.size
  clear cs cr fr hb0 hb1 HZ l1 l2
  unfold BoxS at cs1 cr1
  have hk1 : k ≤ L.length := hpos.1
  have hsz : s.size = 2 * L.length := HE.out.1
  have k1 : 2 * k ≤ s.size := by omega
  have k2 : (2 : Int) * (k : Int) ≤ (s.size : Int) := by omega
  have k3 : (0 : Int) ≤ 2 * (k : Int) := by omega
  have k4 : k ≤ 50000 := by omega
  clear hsz hk1
  by_cases hm : x ∈ L
  · have hd : decide (x ∈ L) = true := decide_eq_true hm
    have HI := hideIt (ins_same HA.out hm)
    clear hm
    go_wp2
    exact bodyPost_ret (v := .agg #[.string s]) (by simp [results, Try.results5, go_sem, cr1]) rfl ⟨s, L, rfl, HE.out, HI.out, hb01.setCell (by show w.heap.size ≤ w.heap.size + 1; omega) _⟩
  · have hd : decide (x ∈ L) = false := decide_eq_false hm
    have hcv := run_pair x hx w1
    have hps := pair_size x
    have HN := hideIt (enc_ins HE.out hpos.1 hx)
    have HI := hideIt (ins_new HA.out hpos hm)
    generalize pair x = p at hcv hps HN
    clear hpos hm
    go_wp2
    go_region
    go_wp2
    have hcl : ∀ (T : Value) (o : Obj), ((w1.setCell ⟨w.heap.size + 1, 0, none⟩ T).alloc o).cell? ⟨w.heap.size + 1, 0, none⟩ = some T := fun T o => by
      rw [World.cell?_alloc_past _ _ _ (by simp; omega)]; exact World.cell?_setCell_same _ _ _ cr1
    exact bodyPost_ret (v := .agg #[.string (s.extract 0 (2 * k) ++ p ++ s.extract (2 * k) s.size)]) (by simp [results, Try.results5, go_sem, hcl]) rfl ⟨_, _, rfl, HN.out, HI.out, ((hb01.setCell (by show w.heap.size ≤ w.heap.size + 1; omega) _).alloc (by simp; omega) _).drew⟩

end Go.Proofs.Qxb6614784a
