/-
  The plain laws: a name cut in two; a version's text is a name.
-/
import Derived.Test.Qxb6609152aFmtFacts
import Derived.Test.Qxb6609152aFmtPlain
namespace Go.Proofs.Qxb6609152aFmt
open Go.Extern

/-- All bytes are letters, digits or underscores. -/
def allOk (s : ByteArray) : Bool := s.data.toList.all (fun c => okc c.toNat)

theorem okc_digit (d : Nat) (h : d < 16) : okc (FmtText.digit false d).toNat = true := by
  have : ∀ d : Fin 16, okc (FmtText.digit false d.val).toNat = true := by decide
  exact this ⟨d, h⟩

theorem okc_digits : ∀ (fuel u : Nat) (acc : List UInt8), (∀ c ∈ acc, okc c.toNat = true) → ∀ c ∈ FmtText.digitsFrom 16 false fuel u acc, okc c.toNat = true
  | 0, _, acc, h => by simpa [FmtText.digitsFrom] using h
  | fuel + 1, u, acc, h => by
    rw [FmtText.digitsFrom]
    split
    · rename_i hu
      intro c hc
      rcases List.mem_cons.1 hc with rfl | hc
      · exact okc_digit u hu
      · exact h c hc
    · exact okc_digits fuel (u / 16) _ (fun c hc => by
        rcases List.mem_cons.1 hc with rfl | hc
        · exact okc_digit _ (Nat.mod_lt _ (by decide))
        · exact h c hc)

theorem vText_ok (n : Int) (h0 : 0 ≤ n) : ∀ c ∈ vText n, okc c.toNat = true := by
  intro c hc
  simp only [vText, FmtText.hexZeros, List.mem_append] at hc
  rcases hc with (hc | hc) | hc | hc
  · rw [if_neg (by omega)] at hc; cases hc
  · cases hc
  · rw [(List.mem_replicate.1 hc).2]; decide
  · exact okc_digits 64 _ [] (fun _ h => by cases h) c hc

theorem vBytes_ok (n : Int) (h0 : 0 ≤ n) : allOk (vBytes n) = true := by
  unfold allOk vBytes
  rw [List.all_eq_true]
  intro c hc
  exact vText_ok n h0 c (by simpa using hc)

theorem vBytes_ne (n : Int) : (vBytes n).data.toList.isEmpty = false := by
  have h := FmtText.hexZeros_length false false 16 n
  have e : (vBytes n).data.toList = vText n := by simp [vBytes]
  rw [e]
  cases hv : vText n with
  | nil => have : (vText n).length = 0 := by rw [hv]; rfl
           unfold vText at this; omega
  | cons c r => rfl

theorem vBytes_size (n : Int) : (vBytes n).size ≤ 83 := by
  have h := vText_length n
  show (vText n).toArray.size ≤ 83
  simpa using h

theorem valid_eq (s : ByteArray) : valid s = (!s.data.toList.isEmpty && allOk s) := rfl

theorem valid_vBytes (n : Int) (h0 : 0 ≤ n) : valid (vBytes n) = true := by rw [valid_eq, vBytes_ne, vBytes_ok n h0]; rfl

theorem toList_append (a b : ByteArray) : (a ++ b).data.toList = a.data.toList ++ b.data.toList := by rw [ByteArray.data_append, Array.toList_append]

theorem valid_left (a : ByteArray) (n : Int) (h0 : 0 ≤ n) : valid (a ++ vBytes n) = allOk a := by
  have h1 := vBytes_ok n h0
  have h2 := vBytes_ne n
  unfold allOk at h1
  rw [valid_eq, allOk, toList_append, List.all_append, h1, Bool.and_true]
  cases ha : a.data.toList with
  | nil => rw [List.nil_append, h2, allOk, ha]; rfl
  | cons c r => rw [allOk, ha]; rfl

theorem valid_right (b : ByteArray) (n : Int) (h0 : 0 ≤ n) : valid (vBytes n ++ b) = allOk b := by
  have h1 := vBytes_ok n h0
  have h2 := vBytes_ne n
  unfold allOk at h1
  rw [valid_eq, allOk, toList_append, List.all_append, h1, Bool.true_and]
  cases hv : (vBytes n).data.toList with
  | nil => rw [hv] at h2; cases h2
  | cons c r => rfl

theorem allOk_cut (s : ByteArray) (k : Nat) : allOk s = (allOk (s.extract 0 k) && allOk (s.extract k s.size)) := by
  have e : s.data.toList = (s.extract 0 k).data.toList ++ (s.extract k s.size).data.toList := by
    rw [ByteArray.data_extract, ByteArray.data_extract, Array.toList_extract, Array.toList_extract, List.extract_eq_take_drop, List.extract_eq_take_drop]
    rw [List.drop_zero, Nat.sub_zero, List.take_of_length_le (l := List.drop k _) (by rw [List.length_drop]; exact Nat.le_refl _), List.take_append_drop]
  unfold allOk
  rw [e, List.all_append]

end Go.Proofs.Qxb6609152aFmt
