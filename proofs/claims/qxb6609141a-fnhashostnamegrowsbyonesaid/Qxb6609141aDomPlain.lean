/-
  Plain mathematics for the laws on 'domains': no Go in sight.
  'doms s k': the domains that the loop has gathered when its counter stands at k (dots at the places 1 .. k-1).
-/
namespace Go.Proofs.Qxb6609141a

def doms (s : ByteArray) : Nat → List ByteArray
  | 0 => []
  | k + 1 => if 1 ≤ k ∧ s.data[k]? = some 46 then doms s k ++ [s.extract (k + 1) s.size] else doms s k

theorem doms_one (s : ByteArray) : doms s 1 = [] := by simp [doms]

theorem doms_hit (s : ByteArray) (k : Nat) (h1 : 1 ≤ k) (hk : k < s.size) (h : (s[k].toNat : Int) = 46) :
    doms s (k + 1) = doms s k ++ [s.extract (k + 1) s.size] := by
  have e : s.data[k]? = some 46 := by
    rw [Array.getElem?_eq_getElem (by exact hk)]
    congr 1
    apply UInt8.toNat_inj.mp
    have : s[k].toNat = 46 := by omega
    exact this
  simp [doms, h1, e]

theorem doms_miss (s : ByteArray) (k : Nat) (hk : k < s.size) (h : ¬ (s[k].toNat : Int) = 46) :
    doms s (k + 1) = doms s k := by
  have e : ¬ s.data[k]? = some 46 := by
    rw [Array.getElem?_eq_getElem (by exact hk)]
    intro he
    apply h
    have : s[k] = 46 := Option.some.inj he
    rw [this]; rfl
  simp [doms, e]

theorem doms_le (s : ByteArray) (k : Nat) : (doms s k).length ≤ k := by
  induction k with
  | zero => simp [doms]
  | succ k ih => unfold doms; split
                 · simp; omega
                 · omega

/-- The dots at the places 0 .. k-1. -/
def doms0 (s : ByteArray) : Nat → List ByteArray
  | 0 => []
  | k + 1 => if s.data[k]? = some 46 then doms0 s k ++ [s.extract (k + 1) s.size] else doms0 s k

/-- The text behind a leading dot. -/
def lead (b : ByteArray) : List ByteArray := if b.data[0]? = some 46 then [b.extract 1 b.size] else []

theorem doms0_eq (s : ByteArray) (k : Nat) : doms0 s (k + 1) = lead s ++ doms s (k + 1) := by
  induction k with
  | zero => simp [doms0, doms, lead]
  | succ k ih =>
    rw [doms0, ih, doms.eq_2 s (k + 1)]
    by_cases h : s.data[k + 1]? = some 46
    · simp [h]
    · simp [h]

theorem doms0_all (s : ByteArray) : doms0 s s.size = lead s ++ doms s s.size := by
  cases h : s.size with
  | zero =>
    have : s.data.size = 0 := h
    have e : s.data[0]? = none := Array.getElem?_eq_none (by omega)
    simp [doms0, doms, lead, e]
  | succ k => exact doms0_eq s k

theorem tail_toList (s : ByteArray) (i : Nat) : (s.extract i s.size).data.toList = s.data.toList.drop i := by
  rw [ByteArray.data_extract, Array.toList_extract, List.extract_eq_take_drop, List.take_of_length_le]
  rw [List.length_drop]; exact Nat.le_refl _

theorem append_toList (a b : ByteArray) : (a ++ b).data.toList = a.data.toList ++ b.data.toList := by
  rw [ByteArray.data_append, Array.toList_append]

theorem bytes_ext {a b : ByteArray} (h : a.data.toList = b.data.toList) : a = b := ByteArray.ext (Array.toList_inj.mp h)

theorem doms_left (a b : ByteArray) (k : Nat) (hk : k ≤ a.size) : doms (a ++ b) k = (doms a k).map (· ++ b) := by
  induction k with
  | zero => simp [doms]
  | succ k ih =>
    have e : (a ++ b).data[k]? = a.data[k]? := by
      rw [ByteArray.data_append]; exact Array.getElem?_append_left (by exact hk)
    have e2 : (a ++ b).extract (k + 1) (a ++ b).size = a.extract (k + 1) a.size ++ b := by
      apply bytes_ext
      rw [tail_toList, append_toList, append_toList, tail_toList]
      exact List.drop_append_of_le_length (by exact hk)
    rw [doms, doms, e, e2, ih (by omega)]
    split <;> simp

theorem doms_right (a b : ByteArray) (k : Nat) (ha : 1 ≤ a.size) (hk : k ≤ b.size) :
    doms (a ++ b) (a.size + k) = (doms a a.size).map (· ++ b) ++ doms0 b k := by
  induction k with
  | zero => simp [doms0, doms_left a b a.size (Nat.le_refl _)]
  | succ k ih =>
    have e : (a ++ b).data[a.size + k]? = b.data[k]? := by
      rw [ByteArray.data_append, Array.getElem?_append_right (by show a.size ≤ _; omega)]
      congr 1; show a.size + k - a.size = k; omega
    have e2 : (a ++ b).extract (a.size + k + 1) (a ++ b).size = b.extract (k + 1) b.size := by
      apply bytes_ext
      rw [tail_toList, append_toList, tail_toList, List.drop_append]
      have h2 : a.data.toList.length = a.size := rfl
      rw [List.drop_of_length_le (by omega), h2, show a.size + k + 1 - a.size = k + 1 by omega]; rfl
    rw [show a.size + (k + 1) = a.size + k + 1 by omega, doms, doms0, e, e2, ih (by omega)]
    by_cases h : b.data[k]? = some 46
    · rw [if_pos ⟨by omega, h⟩, if_pos h]; simp
    · rw [if_neg (by intro hh; exact h hh.2), if_neg h]

/-- The law of any cut: a not empty. -/
theorem doms_cut (a b : ByteArray) (ha : 1 ≤ a.size) :
    doms (a ++ b) (a ++ b).size = (doms a a.size).map (· ++ b) ++ lead b ++ doms b b.size := by
  rw [ByteArray.size_append, doms_right a b b.size ha (Nat.le_refl _), doms0_all, List.append_assoc]

/-- No dot in the first k bytes: no domain. -/
theorem doms_none (s : ByteArray) (k : Nat) (h : ∀ j, j < k → ¬ s.data[j]? = some 46) : doms s k = [] := by
  induction k with
  | zero => rfl
  | succ k ih => rw [doms, if_neg (by intro hh; exact h k (by omega) hh.2)]; exact ih fun j hj => h j (by omega)

theorem doms_label (l h : ByteArray) (hl : 1 ≤ l.size) (hd : ∀ j, j < l.size → ¬ l.data[j]? = some 46) :
    doms (l ++ ⟨#[46]⟩ ++ h) (l ++ ⟨#[46]⟩ ++ h).size = [h] ++ lead h ++ doms h h.size := by
  have hs : (l ++ ⟨#[46]⟩).size = l.size + 1 := by rw [ByteArray.size_append]; rfl
  rw [doms_cut _ h (by omega)]
  have e : doms (l ++ ⟨#[46]⟩) (l ++ ⟨#[46]⟩).size = [ByteArray.empty] := by
    rw [hs, doms, doms_left l _ l.size (Nat.le_refl _), doms_none l l.size hd]
    have e1 : (l ++ (⟨#[46]⟩ : ByteArray)).data[l.size]? = some 46 := by
      rw [ByteArray.data_append, Array.getElem?_append_right (by show l.size ≤ _; omega)]
      show (#[46] : Array UInt8)[l.size - l.size]? = some 46
      rw [Nat.sub_self]; rfl
    rw [if_pos ⟨hl, e1⟩]
    have e2 : (l ++ (⟨#[46]⟩ : ByteArray)).extract (l.size + 1) (l ++ (⟨#[46]⟩ : ByteArray)).size = ByteArray.empty := by
      apply bytes_ext
      rw [tail_toList, List.drop_of_length_le (by show (l ++ (⟨#[46]⟩ : ByteArray)).size ≤ _; omega)]; rfl
    rw [e2]; rfl
  rw [e]
  simp

end Go.Proofs.Qxb6609141a
