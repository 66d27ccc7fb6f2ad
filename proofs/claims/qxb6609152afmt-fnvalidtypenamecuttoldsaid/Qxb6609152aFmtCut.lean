/-
  The walk of 'FnValidTypeNameCut'.
-/
import Derived.Test.Qxb6609152aFmtLaws
import Derived.Test.Qxb6609152aFmtWalkV
import Derived.Test.Qxb6609152aFmtWalkN
namespace Go.Proofs.Qxb6609152aFmt
open Go.RowKit Go.Extern.Stop Go.Stop Go.Extern

theorem hideIt {p : Prop} (h : p) : Hid p := h

set_option maxHeartbeats 800000 in
theorem cut_told (F : Interp) (s : ByteArray) (i n : Int) (w : World) (hF : F.told.answers w.tape) (w0 : s.size ≤ maxLen) (w2 : (Lit.int .u64 n).wf = true) :
    Calls Tryf.prog 3 #[.string s, .int .i64 i, .int .u64 n] w fun e w' => e = .returned (.bool true) ∧ Below w.heap.size w w' := by
  have W0 := w0
  have W2 := hideIt w2
  clear w2
  unfold maxLen at w0
  have HF := hideIt hF
  clear hF
  by_cases hi : 0 ≤ i ∧ i ≤ (s.size : Int)
  · obtain ⟨k, rfl⟩ : ∃ k : Nat, i = (k : Int) := ⟨i.toNat, by omega⟩
    have hk : k ≤ s.size := by omega
    clear hi
    go_enter Tryf.func3, Tryf.ntmps3
    go_wp2_with (go_at_call 8; refine (bytes8_any _ _ _ _ W0).mono ?_; rintro e w ⟨⟨r, rfl⟩, rfl⟩)
    iterate 2 (· go_ret; exact ⟨rfl, Below.refl _ _⟩)
    have hs : s.size ≤ 1048576 := by omega
    have hn0 : 0 ≤ n := by
      have h := W2.out
      have h0 : IntKind.u64.min = 0 := rfl
      simp [Lit.wf] at h
      omega
    refine (version_told F n w HF.out W2.out).mono ?_
    rintro e w1 ⟨rfl, hb1⟩
    have hv1 := hideIt (valid_vBytes n hn0)
    have hv2 := hideIt (valid_left (s.extract 0 k) n hn0)
    have hv3 := hideIt (valid_right (s.extract k s.size) n hn0)
    have hv4 := hideIt (allOk_cut s k)
    have hv5 := hideIt (valid_eq s)
    have hvs := vBytes_size n
    generalize vBytes n = V at hv1 hv2 hv3 hvs ⊢
    have hsl : (s.extract 0 k ++ V).size ≤ 9000000000 := by rw [ByteArray.size_append, ByteArray.size_extract]; omega
    have hsr : (V ++ s.extract k s.size).size ≤ 9000000000 := by rw [ByteArray.size_append, ByteArray.size_extract]; omega
    go_wp2_with fail
    refine (zzvalid_any V w1 (by omega)).mono ?_
    rintro e w2 ⟨he, hb2⟩
    rw [hv1.out] at he
    subst he
    have hb12 := hb1.trans (hb2.mono hb1.size)
    go_wp2_with fail
    refine (zzvalid_any s w2 (by omega)).mono ?_
    rintro e w3 ⟨rfl, hb3⟩
    have hb13 := hb12.trans (hb3.mono hb12.size)
    go_wp2_with fail
    refine (zzvalid_any _ w3 hsl).mono ?_
    rintro e w4 ⟨he, hb4⟩
    rw [hv2.out] at he
    subst he
    have hb14 := hb13.trans (hb4.mono hb13.size)
    go_wp2_with fail
    refine (zzvalid_any _ w4 hsr).mono ?_
    rintro e w5 ⟨he, hb5⟩
    rw [hv3.out] at he
    subst he
    have hb15 := hb14.trans (hb5.mono hb14.size)
    have hw := hv5.out
    rw [hv4.out, ← ByteArray.toList_eq] at hw
    rw [hw]
    clear hb1 hb2 hb3 hb4 hb5 hb12 hb13 hb14 hv1 hv2 hv3 hv4 hv5 hsl hsr HF W2 hw
    generalize allOk (s.extract 0 k) = A
    generalize allOk (s.extract k s.size) = B
    cases hE : s.toList.isEmpty
    · cases A <;> cases B
      all_goals
        go_wp2
        go_ret
        exact ⟨rfl, hb15⟩
    · cases A <;> cases B
      all_goals
        go_wp2
        go_ret
        exact ⟨rfl, hb15⟩
  · go_enter Tryf.func3, Tryf.ntmps3
    go_wp2_with (go_at_call 8; refine (bytes8_any _ _ _ _ W0).mono ?_; rintro e w ⟨⟨r, rfl⟩, rfl⟩)
    all_goals first | (go_ret; exact ⟨rfl, Below.refl _ _⟩) | (exfalso; omega)

end Go.Proofs.Qxb6609152aFmt
