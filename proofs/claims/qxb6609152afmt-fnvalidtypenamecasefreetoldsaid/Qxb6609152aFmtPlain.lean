/-
  Plain mathematics for the laws on 'validTypeName'.
-/
namespace Go.Proofs.Qxb6609152aFmt

/-- A letter, a digit or an underscore. -/
def okc (c : Nat) : Bool := (97 ≤ c && c ≤ 122) || (65 ≤ c && c ≤ 90) || (48 ≤ c && c ≤ 57) || c == 95

/-- What 'validTypeName' answers. -/
def valid (s : ByteArray) : Bool := !s.data.toList.isEmpty && s.data.toList.all (fun c => okc c.toNat)

theorem valid_of (s : ByteArray) (he : s.data.toList.isEmpty = false) (h : ∀ j (h : j < s.size), okc s[j].toNat = true) : valid s = true := by
  unfold valid
  rw [he, Bool.not_false, Bool.true_and, List.all_eq_true]
  intro c hc
  obtain ⟨j, hj, rfl⟩ := List.getElem_of_mem hc
  exact h j (by simpa using hj)

theorem valid_not (s : ByteArray) (j : Nat) (hj : j < s.size) (h : okc s[j].toNat = false) : valid s = false := by
  unfold valid
  rw [Bool.and_eq_false_iff]
  right
  rw [List.all_eq_false]
  refine ⟨s[j], ?_, ?_⟩
  · exact List.getElem_mem (l := s.data.toList) (n := j) (by simpa using hj)
  · rw [h]; simp

theorem valid_empty (s : ByteArray) (he : s.data.toList.isEmpty = true) : valid s = false := by
  unfold valid; rw [he]; rfl

/-- The byte's kinds, as inequalities on integers. -/
theorem okc_yes (c : Nat) (h : (97 ≤ (c : Int) ∧ (c : Int) ≤ 122) ∨ (65 ≤ (c : Int) ∧ (c : Int) ≤ 90) ∨ (48 ≤ (c : Int) ∧ (c : Int) ≤ 57) ∨ (c : Int) = 95) : okc c = true := by
  unfold okc
  simp only [Bool.or_eq_true, Bool.and_eq_true, decide_eq_true_eq, beq_iff_eq]
  omega

theorem okc_no (c : Nat) (h : okc c = false) (hc : c < 256) : (0 ≤ (c : Int) ∧ (c : Int) < 48) ∨ (57 < (c : Int) ∧ (c : Int) < 65) ∨ (90 < (c : Int) ∧ (c : Int) < 95) ∨ (95 < (c : Int) ∧ (c : Int) < 97) ∨ (122 < (c : Int) ∧ (c : Int) < 256) := by
  unfold okc at h
  simp only [Bool.or_eq_false_iff, Bool.and_eq_false_iff, decide_eq_false_iff_not, beq_eq_false_iff_ne] at h
  omega

theorem okc_cases (c : Nat) (h : okc c = true) : (97 ≤ (c : Int) ∧ (c : Int) ≤ 122) ∨ (65 ≤ (c : Int) ∧ (c : Int) ≤ 90) ∨ (48 ≤ (c : Int) ∧ (c : Int) ≤ 57) ∨ (95 ≤ (c : Int) ∧ (c : Int) ≤ 95) := by
  unfold okc at h
  simp only [Bool.or_eq_true, Bool.and_eq_true, decide_eq_true_eq, beq_iff_eq] at h
  omega

end Go.Proofs.Qxb6609152aFmt
