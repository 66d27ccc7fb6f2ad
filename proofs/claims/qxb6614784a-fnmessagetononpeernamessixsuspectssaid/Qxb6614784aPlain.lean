/-
  Plain mathematics for wire.Set: a string of pairs of bytes stands for an ascending list of numbers.
-/
namespace Go.Proofs.Qxb6614784a

/-- s holds the numbers of L, two bytes each, the higher first. -/
def IsEnc (s : ByteArray) (L : List Nat) : Prop :=
  s.size = 2 * L.length ∧ ∀ k (h : k < L.length) (h1 : 2 * k < s.size) (h2 : 2 * k + 1 < s.size), s[2 * k].toNat * 256 + s[2 * k + 1].toNat = L[k]

/-- k is the place of x in the ascending list L. -/
def Pos (L : List Nat) (x k : Nat) : Prop :=
  k ≤ L.length ∧ (∀ t (h : t < L.length), t < k → L[t] < x) ∧ (∀ t (h : t < L.length), k ≤ t → x ≤ L[t])

theorem asc_le {L : List Nat} (h : L.Pairwise (· < ·)) {a b : Nat} (hb : b < L.length) (hab : a ≤ b) : L[a] ≤ L[b] := by
  rcases Nat.eq_or_lt_of_le hab with rfl | hlt
  · exact Nat.le_refl _
  · exact Nat.le_of_lt (List.pairwise_iff_getElem.mp h a b (by omega) hb hlt)

theorem mem_of_pos {L : List Nat} {x k : Nat} (hL : L.Pairwise (· < ·)) (h : Pos L x k) : x ∈ L ↔ ∃ hk : k < L.length, L[k] = x := by
  obtain ⟨h1, h2, h3⟩ := h
  constructor
  · intro hx
    obtain ⟨t, ht, e⟩ := List.getElem_of_mem hx
    rcases Nat.lt_trichotomy t k with hlt | heq | hgt
    · have := h2 t ht hlt; omega
    · subst heq; exact ⟨ht, e⟩
    · have hk : k < L.length := by omega
      have a1 := h3 k hk (Nat.le_refl _)
      have a2 := List.pairwise_iff_getElem.mp hL k t hk ht hgt
      omega
  · rintro ⟨hk, rfl⟩
    exact List.getElem_mem hk

/-- The i-th byte as a number. -/
def byt (l : List UInt8) (i : Nat) : Nat := (l[i]?.getD 0).toNat

theorem byt_eq (s : ByteArray) (i : Nat) (h : i < s.size) : byt s.data.toList i = s[i].toNat := by
  unfold byt
  rw [List.getElem?_eq_getElem (by simpa using h)]; rfl

theorem isEnc_byt {s : ByteArray} {L : List Nat} : IsEnc s L ↔ s.size = 2 * L.length ∧ ∀ k (h : k < L.length), byt s.data.toList (2 * k) * 256 + byt s.data.toList (2 * k + 1) = L[k] := by
  constructor
  · rintro ⟨h1, h2⟩
    exact ⟨h1, fun k h => by rw [byt_eq s _ (by omega), byt_eq s _ (by omega)]; exact h2 k h (by omega) (by omega)⟩
  · rintro ⟨h1, h2⟩
    exact ⟨h1, fun k h a b => by rw [← byt_eq s _ a, ← byt_eq s _ b]; exact h2 k h⟩

/-- The two bytes of x. -/
def pair (x : Nat) : ByteArray := ⟨[UInt8.ofNat (x / 256), UInt8.ofNat (x % 256)].toArray⟩

theorem pair_size (x : Nat) : (pair x).size = 2 := rfl

theorem glue_toList (s p : ByteArray) (n : Nat) : (s.extract 0 n ++ p ++ s.extract n s.size).data.toList = s.data.toList.take n ++ p.data.toList ++ s.data.toList.drop n := by
  rw [ByteArray.data_append, ByteArray.data_append, Array.toList_append, Array.toList_append, ByteArray.data_extract, ByteArray.data_extract, Array.toList_extract, Array.toList_extract, List.extract_eq_take_drop, List.extract_eq_take_drop]
  rw [List.drop_zero, Nat.sub_zero, List.take_of_length_le (l := List.drop n _) (by rw [List.length_drop]; exact Nat.le_refl _)]

theorem byt_take (l r : List UInt8) (n i : Nat) (h : i < n) (hn : n ≤ l.length) : byt (l.take n ++ r) i = byt l i := by
  unfold byt
  rw [List.getElem?_append_left (by rw [List.length_take]; omega), List.getElem?_take_of_lt h]

theorem byt_skip (l r : List UInt8) (n i : Nat) (h : l.length = n) (hi : n ≤ i) : byt (l ++ r) i = byt r (i - n) := by
  unfold byt
  rw [List.getElem?_append_right (by omega), h]

theorem byt_drop (l : List UInt8) (n i : Nat) : byt (l.drop n) i = byt l (n + i) := by
  unfold byt
  rw [List.getElem?_drop]

theorem enc_ins {s : ByteArray} {L : List Nat} {x k : Nat} (he : IsEnc s L) (hk : k ≤ L.length) (hx : x ≤ 65535) :
    IsEnc (s.extract 0 (2 * k) ++ pair x ++ s.extract (2 * k) s.size) (L.take k ++ x :: L.drop k) := by
  rw [isEnc_byt] at he ⊢
  obtain ⟨h1, h2⟩ := he
  have hl : s.data.toList.length = s.size := rfl
  have e := glue_toList s (pair x) (2 * k)
  have hp : (pair x).data.toList = [UInt8.ofNat (x / 256), UInt8.ofNat (x % 256)] := rfl
  constructor
  · have : (s.extract 0 (2 * k) ++ pair x ++ s.extract (2 * k) s.size).data.toList.length = 2 * (L.take k ++ x :: L.drop k).length := by
      rw [e, hp]
      simp only [List.length_append, List.length_take, List.length_drop, List.length_cons, List.length_nil]
      omega
    exact this
  · intro j hj
    have hj2 : j < L.length + 1 := by simp at hj; omega
    rw [e, hp, List.append_assoc]
    have ht : (s.data.toList.take (2 * k)).length = 2 * k := by rw [List.length_take]; omega
    rcases Nat.lt_trichotomy j k with hlt | heq | hgt
    · rw [byt_take _ _ _ _ (by omega) (by omega), byt_take _ _ _ _ (by omega) (by omega), h2 j (by omega)]
      rw [List.getElem_append_left (by rw [List.length_take]; omega)]; simp
    · subst heq
      rw [byt_skip _ _ _ _ ht (by omega), byt_skip _ _ _ _ ht (by omega)]
      rw [show 2 * j - 2 * j = 0 by omega, show 2 * j + 1 - 2 * j = 1 by omega]
      have a1 : byt ([UInt8.ofNat (x / 256), UInt8.ofNat (x % 256)] ++ List.drop (2 * j) s.data.toList) 0 = x / 256 := by
        show (UInt8.ofNat (x / 256)).toNat = _
        rw [UInt8.toNat_ofNat']; omega
      have a2 : byt ([UInt8.ofNat (x / 256), UInt8.ofNat (x % 256)] ++ List.drop (2 * j) s.data.toList) 1 = x % 256 := by
        show (UInt8.ofNat (x % 256)).toNat = _
        rw [UInt8.toNat_ofNat']; omega
      rw [a1, a2, List.getElem_append_right (by rw [List.length_take]; omega)]
      simp [Nat.min_eq_left hk]
      omega
    · rw [byt_skip _ _ _ _ ht (by omega), byt_skip _ _ _ _ ht (by omega)]
      rw [byt_skip _ _ 2 _ rfl (by omega), byt_skip _ _ 2 _ rfl (by omega), byt_drop, byt_drop]
      rw [show 2 * k + (2 * j - 2 * k - 2) = 2 * (j - 1) by omega, show 2 * k + (2 * j + 1 - 2 * k - 2) = 2 * (j - 1) + 1 by omega, h2 (j - 1) (by omega)]
      rw [List.getElem_append_right (by rw [List.length_take]; omega)]
      have hmin : min k L.length = k := Nat.min_eq_left hk
      simp only [List.length_take, hmin]
      obtain ⟨d, hd⟩ : ∃ d, j - k = d + 1 := ⟨j - k - 1, by omega⟩
      simp only [hd, List.getElem_cons_succ, List.getElem_drop]
      congr 1
      omega

/-- L' is L with x. -/
def Ins (L : List Nat) (x : Nat) (L' : List Nat) : Prop :=
  L'.Pairwise (· < ·) ∧ (∀ y, y ∈ L' ↔ y = x ∨ y ∈ L) ∧ L'.length = (if x ∈ L then L.length else L.length + 1)

theorem ins_same {L : List Nat} {x : Nat} (hL : L.Pairwise (· < ·)) (hx : x ∈ L) : Ins L x L :=
  ⟨hL, fun y => ⟨.inr, fun h => h.elim (fun e => e ▸ hx) id⟩, by rw [if_pos hx]⟩

theorem ins_new {L : List Nat} {x k : Nat} (hL : L.Pairwise (· < ·)) (hp : Pos L x k) (hx : ¬ x ∈ L) : Ins L x (L.take k ++ x :: L.drop k) := by
  obtain ⟨h1, h2, h3⟩ := hp
  refine ⟨?_, ?_, ?_⟩
  · rw [List.pairwise_append, List.pairwise_cons]
    refine ⟨hL.sublist (List.take_sublist _ _), ⟨?_, hL.sublist (List.drop_sublist _ _)⟩, ?_⟩
    · intro y hy
      obtain ⟨t, ht, rfl⟩ := List.getElem_of_mem hy
      rw [List.getElem_drop]
      rw [List.length_drop] at ht
      have := h3 (k + t) (by omega) (by omega)
      rcases Nat.lt_or_eq_of_le this with h | h
      · exact h
      · exact absurd (h ▸ List.getElem_mem _) hx
    · intro y hy z hz
      obtain ⟨t, ht, rfl⟩ := List.getElem_of_mem hy
      rw [List.length_take] at ht
      rw [List.getElem_take]
      have hyx := h2 t (by omega) (by omega)
      rcases List.mem_cons.mp hz with rfl | hz
      · exact hyx
      · obtain ⟨u, hu, rfl⟩ := List.getElem_of_mem hz
        rw [List.length_drop] at hu
        rw [List.getElem_drop]
        have := h3 (k + u) (by omega) (by omega)
        omega
  · intro y
    rw [List.mem_append, List.mem_cons]
    have hm : y ∈ L ↔ y ∈ L.take k ∨ y ∈ L.drop k := by
      rw [← List.mem_append, List.take_append_drop]
    rw [hm]
    constructor
    · rintro (h | h | h)
      · exact .inr (.inl h)
      · exact .inl h
      · exact .inr (.inr h)
    · rintro (h | h | h)
      · exact .inr (.inl h)
      · exact .inl h
      · exact .inr (.inr h)
  · rw [if_neg hx]
    simp
    omega

end Go.Proofs.Qxb6614784a
