/-
  The walk of 'FnValidTypeNameCaseFree'.
-/
import Derived.Test.Qxb6609152aFmtLaws
import Derived.Test.Qxb6609152aFmtWalkV
import Derived.Test.Qxb6609152aFmtWalkN
import Derived.Test.Qxb6609152aFmtSwap
namespace Go.Proofs.Qxb6609152aFmt
open Go.RowKit Go.Extern.Stop Go.Stop Go.Extern

theorem hidden {p : Prop} (h : p) : Hid p := h

theorem okc_swap (c : Nat) : okc (swapN c) = okc c := by
  rw [Bool.eq_iff_iff]
  unfold okc swapN
  simp only [Bool.or_eq_true, Bool.and_eq_true, decide_eq_true_eq, beq_iff_eq]
  split
  · omega
  · split <;> omega

theorem valid_swap (s : ByteArray) : valid (swapS s) = valid s := by
  have e : (swapS s).data.toList = s.data.toList.map swapU := by simp [swapS]
  unfold valid
  rw [e, List.all_map, List.isEmpty_map]
  congr 2
  funext c
  show okc (swapU c).toNat = okc c.toNat
  rw [swapU_toNat, okc_swap]

theorem swap_size (s : ByteArray) : (swapS s).size = s.size := by
  show (s.data.toList.map swapU).toArray.size = s.data.size
  simp

set_option maxHeartbeats 800000 in
theorem case_told (F : Interp) (s : ByteArray) (n : Int) (w : World) (hF : F.told.answers w.tape) (w0 : s.size ≤ maxLen) (w2 : (Lit.int .u64 n).wf = true) :
    Calls Tryf.prog 4 #[.string s, .int .u64 n] w fun e w' => e = .returned (.bool true) ∧ Below w.heap.size w w' := by
  have W0 := w0
  have W2 := hidden w2
  clear w2
  unfold maxLen at w0
  have HF := hidden hF
  clear hF
  go_enter Tryf.func4, Tryf.ntmps4
  go_wp2_with (go_at_call 11; refine (bytes11_any _ _ _ W0).mono ?_; rintro e w ⟨⟨r, rfl⟩, rfl⟩)
  iterate 2 (· go_ret; exact ⟨rfl, Below.refl _ _⟩)
  have hs : s.size ≤ 1048576 := by omega
  have hn0 : 0 ≤ n := by
    have h := W2.out
    have h0 : IntKind.u64.min = 0 := rfl
    simp [Lit.wf] at h
    omega
  refine (version_told F n w HF.out W2.out).mono ?_
  rintro e w1 ⟨rfl, hb1⟩
  have hv1 := hidden (valid_vBytes n hn0)
  have hvs := vBytes_size n
  generalize vBytes n = V at hv1 hvs ⊢
  have hz1 : (swapS V).size ≤ 9000000000 := by rw [swap_size]; omega
  have hz2 : (swapS s).size ≤ 9000000000 := by rw [swap_size]; omega
  go_wp2_with fail
  refine (swap_any V w1 (by omega)).mono ?_
  rintro e w2 ⟨rfl, hb2⟩
  have hb12 := hb1.trans (hb2.mono hb1.size)
  go_wp2_with fail
  refine (zzvalid_any _ w2 hz1).mono ?_
  rintro e w3 ⟨he, hb3⟩
  rw [valid_swap, hv1.out] at he
  subst he
  have hb13 := hb12.trans (hb3.mono hb12.size)
  go_wp2_with fail
  refine (swap_any s w3 (by omega)).mono ?_
  rintro e w4 ⟨rfl, hb4⟩
  have hb14 := hb13.trans (hb4.mono hb13.size)
  go_wp2_with fail
  refine (zzvalid_any _ w4 hz2).mono ?_
  rintro e w5 ⟨he, hb5⟩
  rw [valid_swap] at he
  subst he
  have hb15 := hb14.trans (hb5.mono hb14.size)
  go_wp2_with fail
  refine (zzvalid_any s w5 (by omega)).mono ?_
  rintro e w6 ⟨rfl, hb6⟩
  have hb16 := hb15.trans (hb6.mono hb15.size)
  clear hb1 hb2 hb3 hb4 hb5 hb6 hb12 hb13 hb14 hb15 hv1 HF W2 hz1 hz2
  generalize valid s = A
  go_wp2
  go_ret
  exact ⟨rfl, hb16⟩

end Go.Proofs.Qxb6609152aFmt
