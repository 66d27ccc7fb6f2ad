/-
  The walk of 'FnDomainsSplitAtAnyCut'.
-/
import Derived.Test.Qxb6609141aLabel
namespace Go.Proofs.Qxb6609141a
open Go.RowKit

/-- What 'FnDomainsSplitAtAnyCut' adds in the middle. -/
def mid (a b : ByteArray) : List ByteArray := if 1 ≤ a.size then lead b else []

theorem doms_any_cut (a b : ByteArray) : doms (a ++ b) (a ++ b).size = (doms a a.size).map (· ++ b) ++ mid a b ++ doms b b.size := by
  by_cases h : 1 ≤ a.size
  · rw [doms_cut a b h]; simp [mid, h]
  · have e : a = ByteArray.empty := by
      apply bytes_ext
      have : a.data.toList.length = 0 := by show a.size = 0; omega
      exact List.length_eq_zero_iff.mp this
    subst e
    simp [mid, doms, ByteArray.empty_append]

theorem bytes7_any (a b : ByteArray) (w : World) (ha : a.size ≤ maxLen) (hb : b.size ≤ maxLen) :
    Calls Try.prog 7 #[.string a, .string b] w fun e w' => (∃ r : Bool, e = .returned (.bool r)) ∧ w' = w := by
  unfold maxLen at ha hb
  go_enter Try.func7, Try.ntmps7
  go_wp2
  all_goals (go_ret; exact ⟨⟨_, rfl⟩, rfl⟩)

theorem doms_len_miss (s : ByteArray) (k : Nat) (hk : k < s.size) (h : ((s[k].toNat : Int) == 46) = false) : (doms s (k + 1)).length = (doms s k).length := by
  rw [doms_miss s k hk (by simpa using h)]

theorem doms_len_hit (s : ByteArray) (k : Nat) (h1 : 1 ≤ k) (hk : k < s.size) (h : ((s[k].toNat : Int) == 46) = true) : (doms s (k + 1)).length = (doms s k).length + 1 := by
  rw [doms_hit s k h1 hk (by simpa using h)]; simp

set_option maxHeartbeats 400000 in
theorem dots_any (s : ByteArray) (w : World) (hs : s.size ≤ 1000000) :
    Calls Try.prog 10 #[.string s] w fun e w' => e = .returned (.int .i64 (doms s s.size).length) ∧ w' = w := by
  go_enter Try.func10, Try.ntmps10
  go_wp2
  go_loop [3, 4] (fun n i => ∃ k : Nat, 1 ≤ k ∧ (k ≤ s.size ∨ k = 1) ∧ i = .int .i64 k ∧ n = .int .i64 (doms s k).length) (fun _ i => s.size - (intOf i).toNat)
  case atStart => exact ⟨1, Nat.le_refl _, .inr rfl, rfl, by rw [doms_one]; rfl⟩
  case round =>
    obtain ⟨k, hk1, hk, rfl, rfl⟩ := hrel
    have hdl := doms_le s k
    by_cases hlt : k < s.size
    · go_wp2
      · have h0 : ((s[k].toNat : Int) == 46) = true := by assumption
        have e := doms_len_hit s k hk1 hlt h0
        go_round
        case rel => exact ⟨k + 1, by omega, by omega, by go_num, by rw [e]; go_num⟩
        case measure => simp [intOf]; omega
      · have h0 : ((s[k].toNat : Int) == 46) = false := by assumption
        have e := doms_len_miss s k hlt h0
        go_round
        case rel => exact ⟨k + 1, by omega, by omega, by go_num, by rw [e]⟩
        case measure => simp [intOf]; omega
    · have e : doms s k = doms s s.size := by
        by_cases h : k = s.size
        · rw [h]
        · have h1 : k = 1 := by omega
          have h0 : s.size = 0 := by omega
          rw [h1, h0, doms_one]; rfl
      have e2 : Hid ((doms s k).length = (doms s s.size).length) := by show _ = _; rw [e]
      clear e
      go_wp2
      go_ret
      exact ⟨by rw [e2.out]; rfl, rfl⟩

theorem extract_size_le (s : ByteArray) (i : Nat) : (s.extract i s.size).size ≤ s.size := by rw [ByteArray.size_extract]; omega

theorem doms_size (s : ByteArray) (k : Nat) : ∀ x ∈ doms s k, x.size ≤ s.size := by
  induction k with
  | zero => intro x hx; simp [doms] at hx
  | succ k ih =>
    intro x hx
    unfold doms at hx
    split at hx
    · rcases List.mem_append.mp hx with h | h
      · exact ih x h
      · rw [List.mem_singleton.mp h]; exact extract_size_le s _
    · exact ih x hx

/-- The first k elements of D, each followed by b (a plain name, so that the walk lets it stand). -/
def glued (D : List ByteArray) (b : ByteArray) (k : Nat) : List ByteArray := (D.map (· ++ b)).take k

theorem rel_cut {B k : Nat} {D : List ByteArray} {b : ByteArray} {w wr w1 : World} {v v' : Value} {o : Obj} (hk : k < D.length)
    (hB : B ≤ wr.heap.size) (hown : wr.ownsRow B 9 1 v k (strs (glued D b k))) (hnx : Below B w wr)
    (hown' : w1.ownsRow B 9 1 v' (k + 1) (strs (glued D b k) ++ [.string (D[k] ++ b)])) (hgrow : (wr.alloc o).grownBy w1 v.ownBlock) :
    w1.ownsRow B 9 1 v' (k + 1) (strs (glued D b (k + 1))) ∧ Below B w w1 := by
  refine ⟨?_, (hnx.alloc hB o).grown hgrow (by simp; omega) (fun j hj => (hown.lt j hj).1)⟩
  have e : glued D b (k + 1) = glued D b k ++ [D[k] ++ b] := by
    unfold glued
    rw [List.take_succ_eq_append_getElem (by simpa using hk)]; simp
  rw [e]; simpa [strs] using hown'

set_option maxHeartbeats 1600000 in
theorem cut_any (a0 a1 : ByteArray) (w0 : a0.size ≤ maxLen) (w1 : a1.size ≤ maxLen) (w : World) :
    Calls Try.prog 3 #[.string a0, .string a1] w fun e w' => e = .returned (.bool true) ∧ Below w.heap.size w w' := by
  obtain ⟨i0, hi, hz0, hz1, hz2⟩ := info_parts Try.info9
  have W0 := w0
  have W1 := w1
  unfold maxLen at w0 w1
  go_enter Try.func3, Try.ntmps3
  go_wp2_with (go_at_call 7; refine (bytes7_any _ _ _ W0 W1).mono ?_; rintro e w ⟨⟨r, rfl⟩, rfl⟩)
  iterate 3 (· go_ret; exact ⟨rfl, Below.refl _ _⟩)
  have s0 : a0.size ≤ 4096 := by omega
  have s1 : a1.size ≤ 4096 := by omega
  have hlaw : Hid _ := doms_any_cut a0 a1
  have hsz : (a0 ++ a1).size ≤ 1000000 := by rw [ByteArray.size_append]; omega
  generalize hX : a0 ++ a1 = X at hlaw hsz
  have hdl0 := doms_le a0 a0.size
  have hds0 := doms_size a0 a0.size
  have hdl := doms_le a1 a1.size
  have hdlX := doms_le X X.size
  clear w0 w1 W0 W1
  refine (zzdomains_any X w hsz).mono ?_
  rintro e w1 ⟨v1, rfl, hown1, hbel1⟩
  have hsz1 := hbel1.size
  obtain ⟨ao1, cap1, rfl, _⟩ := Row.of hown1
  go_wp2_with fail
  refine (zzdomains_any a0 w1 (by omega)).mono ?_
  rintro e w2 ⟨v2, rfl, hown2, hbel2⟩
  have hsz2 := hbel2.size
  obtain ⟨ao2, cap2, rfl, hrow2⟩ := Row.of hown2
  clear hown2
  generalize doms a0 a0.size = D at hlaw hdl0 hds0 hrow2
  go_wp2
  go_loopw [6, 26] (fun v i wr => ∃ k : Nat, k ≤ D.length ∧ i = .int .i64 k ∧ wr.ownsRow w2.heap.size 9 1 v k (strs (glued D a1 k)) ∧ Below w2.heap.size w2 wr)
    (fun _ i _ => D.length - (intOf i).toNat)
  case atStart => exact ⟨0, Nat.zero_le _, rfl, World.ownsRow_nil _ _ _ _, Below.refl _ _⟩
  case round =>
    obtain ⟨k, hk, rfl, hown, hnx⟩ := hrel
    by_cases hlt : k < D.length
    · obtain ⟨b, off, rfl, hc⟩ := hrow2 (by intro h; rw [h] at hlt; simp at hlt)
      have hck0 := hc k hlt
      have hck : wr.cell? ⟨b, off + k, none⟩ = some (.string D[k]) := by
        rw [hnx.cell (by exact World.block_lt_of_cell? _ _ hck0)]; exact hck0
      have hd : D[k].size ≤ a0.size := hds0 _ (List.getElem_mem hlt)
      clear hck0 hrow2 hc
      go_wp2_with (at_builtin; refine wpList_append_own _ rfl _ _ 23 rfl w2.heap.size 9 i0 (.string ByteArray.empty) 1 16 Try.underlying23 hi hz0 hz1 hz2 rfl (by decide) _ _ _ rfl (hown.alloc _) ⟨wr.heap.size, 0, none⟩ 1 1 [.string (D[k] ++ a1)] rfl rfl ?c1 ?c2 ?c3 ?c4 ?c5 ?_)
      case c1 =>
        intro j u hj
        match j, hj with
        | 0, hj => simp at hj; subst hj; simp [Addr.add]
      case c2 => intro u hu; simp at hu; subst hu; rfl
      case c3 => unfold maxLen; omega
      case c4 => omega
      case c5 => have := hnx.size; simp; omega
      · intro v' w3 hown' hgrow _
        have R := rel_cut hlt hnx.size hown hnx hown' hgrow
        clear hown' hgrow hown hck hnx
        go_wp2
        go_roundw
        case rel => exact ⟨k + 1, by omega, by go_num, R.1, R.2⟩
        case measure => simp [intOf]; omega
    · have hke : k = D.length := by omega
      subst hke
      have hown3 : wr.ownsRow w2.heap.size 9 1 u6 D.length (strs (D.map (· ++ a1))) := by
        have e : glued D a1 D.length = D.map (· ++ a1) := List.take_of_length_le (by simp)
        rw [← e]; exact hown
      have hbelr := hbel2.trans (hnx.mono hsz2)
      have hnxs := hnx.size
      clear hown hnx hrow2 hds0
      have fin : ∀ (v5 : Value) (w5 : World) (n : Nat) (xs : List ByteArray), w5.ownsRow w2.heap.size 9 1 v5 n (strs xs) → Below w1.heap.size w1 w5 → doms X X.size = xs → Row w5 (.slice ao1 (doms X X.size).length cap1) xs ∧ Row w5 v5 xs ∧ xs.length ≤ 1000000000 := by
        intro v5 w5 n xs h2 hb hx
        subst hx
        have hn : n = (doms X X.size).length := by have := h2.1; simp [strs] at this; omega
        subst hn
        exact ⟨Row.of (ownsRow_below hown1 hb (ownsRow_lt hown1)), Row.of h2, by omega⟩
      by_cases hm : 1 ≤ a0.size ∧ a1.data[0]? = some 46
      · obtain ⟨h1, hd⟩ := hm
        have hp : 0 < a1.size := by
          have h := (Array.getElem?_eq_some_iff.mp hd).1
          exact h
        obtain ⟨E, hE0⟩ : ∃ E, E = D.map (· ++ a1) ++ [a1.extract 1 a1.size] := ⟨_, rfl⟩
        have hE : Hid (D.map (· ++ a1) ++ mid a0 a1 = E) := by
          show _ = _
          rw [hE0]
          unfold mid lead
          rw [if_pos h1, if_pos hd]
        have h46 : ((a1[0].toNat : Int) == 46) = true := by
          rw [Array.getElem?_eq_getElem (by exact hp)] at hd
          have h2 : a1[0] = 46 := Option.some.inj hd
          rw [h2]; rfl
        clear hd
        have HE0 : Hid (strs E = strs (D.map (· ++ a1)) ++ [.string (a1.extract 1 a1.size)]) := by show _ = _; rw [hE0]; simp [strs]
        clear hE0
        generalize strs (D.map (· ++ a1)) = S at hown3 HE0
        go_wp2_with (at_builtin; refine wpList_append_own _ rfl _ _ 23 rfl w2.heap.size 9 i0 (.string ByteArray.empty) 1 16 Try.underlying23 hi hz0 hz1 hz2 rfl (by decide) _ _ _ rfl (hown3.alloc _) ⟨wr.heap.size, 0, none⟩ 1 1 [.string (a1.extract 1 a1.size)] ?_ rfl ?_ ?_ ?_ ?_ ?_ ?_)
        · rfl
        · intro j u hj
          match j, hj with
          | 0, hj => simp at hj; subst hj; simp [Addr.add]
        · intro u hu; simp at hu; subst hu; rfl
        · unfold maxLen; omega
        · omega
        · simp; omega
        · intro v8 w8 hown8 hgrow8 _
          rw [← HE0.out] at hown8
          have hbel8 := (hbelr.alloc (by omega) _).grown hgrow8 (by simp; omega) (fun j hj => Nat.le_trans hsz2 (hown3.lt j hj).1)
          have hgs := hgrow8.size
          have hgs2 : wr.heap.size + 1 ≤ w8.heap.size := by simpa using hgs
          clear hown3 hgrow8 HE0 hgs
          go_wp2_with fail
          refine (zzdomains_any a1 _ (by omega)).mono ?_
          rintro e w4 ⟨v4, rfl, hown4, hbel4⟩
          have hown5 := ownsRow_below hown8 hbel4 (ownsRow_lt hown8)
          have hsz4 := hbel4.size
          have hbel5 := hbel8.trans (hbel4.mono (by omega))
          go_wp2_with (at_builtin; refine wpList_append_rows rfl _ _ 23 rfl w2.heap.size _ 9 i0 _ 16 Try.underlying23 hi hz0 hz1 hz2 rfl _ _ _ rfl hown5 _ _ _ rfl hown4 (strs_one _) ?_ ?_ ?_ ?_)
          · unfold maxLen; omega
          · omega
          · omega
          · intro v5 w5 hown6 hgrow5
            have hbel6 := hbel5.grown hgrow5 (by omega) (fun j hj => Nat.le_trans hsz2 (hown5.lt j hj).1)
            obtain ⟨R1, R2, R3⟩ := fin v5 w5 _ (E ++ doms a1 a1.size) (by rw [strs, List.map_append]; exact hown6) hbel6 (by rw [hlaw.out, hE.out])
            have hbel7 := hbel1.trans (hbel6.mono hsz1)
            clear hown1 hbelr fin hown8 hbel8 hown4 hown5 hbel4 hbel5 hgrow5 hown6 hbel6
            go_wp2_with fail
            refine (same_true _ _ _ _ R3 R1 R2).mono ?_
            rintro e w6 ⟨rfl, n6, rfl⟩
            go_wp2_with fail
            refine (dots_any X _ hsz).mono ?_
            rintro e w7 ⟨rfl, rfl⟩
            go_wp2
            go_ret
            exact ⟨rfl, below_draws hbel7⟩
      · obtain ⟨E, hE0⟩ : ∃ E, E = D.map (· ++ a1) := ⟨_, rfl⟩
        have hE : Hid (D.map (· ++ a1) ++ mid a0 a1 = E) := by
          show _ = _
          rw [hE0]
          unfold mid lead
          by_cases h1 : 1 ≤ a0.size
          · rw [if_pos h1, if_neg (fun h => hm ⟨h1, h⟩), List.append_nil]
          · rw [if_neg h1, List.append_nil]
        rw [← hE0] at hown3
        clear hE0
        rcases (show (¬ 0 < a0.size) ∨ (0 < a0.size ∧ ¬ 0 < a1.size) ∨ (∃ hp : 0 < a1.size, 0 < a0.size ∧ ((a1[0].toNat : Int) == 46) = false) from by
          by_cases h1 : 0 < a0.size
          · by_cases h2 : 0 < a1.size
            · refine .inr (.inr ⟨h2, h1, ?_⟩)
              rw [beq_eq_false_iff_ne]
              intro h
              apply hm
              refine ⟨h1, ?_⟩
              rw [Array.getElem?_eq_getElem (by exact h2)]
              congr 1
              apply UInt8.toNat_inj.mp
              have : a1[0].toNat = 46 := by omega
              exact this
            · exact .inr (.inl ⟨h1, h2⟩)
          · exact .inl h1) with h1 | ⟨h1, h2⟩ | ⟨hp, h1, h46⟩
        · clear hm
          go_wp2_with fail
          refine (zzdomains_any a1 _ (by omega)).mono ?_
          rintro e w4 ⟨v4, rfl, hown4, hbel4⟩
          have hown5 := ownsRow_below hown3 hbel4 (ownsRow_lt hown3)
          have hsz4 := hbel4.size
          have hbel5 := hbelr.trans (hbel4.mono (Nat.le_trans hsz2 hnxs))
          go_wp2_with (at_builtin; refine wpList_append_rows rfl _ _ 23 rfl w2.heap.size _ 9 i0 _ 16 Try.underlying23 hi hz0 hz1 hz2 rfl _ _ _ rfl hown5 _ _ _ rfl hown4 (strs_one _) ?_ ?_ ?_ ?_)
          · unfold maxLen; omega
          · omega
          · omega
          · intro v5 w5 hown6 hgrow5
            have hbel6 := hbel5.grown hgrow5 (by omega) (fun j hj => Nat.le_trans hsz2 (hown5.lt j hj).1)
            obtain ⟨R1, R2, R3⟩ := fin v5 w5 _ (E ++ doms a1 a1.size) (by rw [strs, List.map_append]; exact hown6) hbel6 (by rw [hlaw.out, hE.out])
            have hbel7 := hbel1.trans (hbel6.mono hsz1)
            clear hown1 hbelr fin hown3 hown4 hown5 hbel4 hbel5 hgrow5 hown6 hbel6
            go_wp2_with fail
            refine (same_true _ _ _ _ R3 R1 R2).mono ?_
            rintro e w6 ⟨rfl, n6, rfl⟩
            go_wp2_with fail
            refine (dots_any X _ hsz).mono ?_
            rintro e w7 ⟨rfl, rfl⟩
            go_wp2
            go_ret
            exact ⟨rfl, below_draws hbel7⟩
        · clear hm
          go_wp2_with fail
          refine (zzdomains_any a1 _ (by omega)).mono ?_
          rintro e w4 ⟨v4, rfl, hown4, hbel4⟩
          have hown5 := ownsRow_below hown3 hbel4 (ownsRow_lt hown3)
          have hsz4 := hbel4.size
          have hbel5 := hbelr.trans (hbel4.mono (Nat.le_trans hsz2 hnxs))
          go_wp2_with (at_builtin; refine wpList_append_rows rfl _ _ 23 rfl w2.heap.size _ 9 i0 _ 16 Try.underlying23 hi hz0 hz1 hz2 rfl _ _ _ rfl hown5 _ _ _ rfl hown4 (strs_one _) ?_ ?_ ?_ ?_)
          · unfold maxLen; omega
          · omega
          · omega
          · intro v5 w5 hown6 hgrow5
            have hbel6 := hbel5.grown hgrow5 (by omega) (fun j hj => Nat.le_trans hsz2 (hown5.lt j hj).1)
            obtain ⟨R1, R2, R3⟩ := fin v5 w5 _ (E ++ doms a1 a1.size) (by rw [strs, List.map_append]; exact hown6) hbel6 (by rw [hlaw.out, hE.out])
            have hbel7 := hbel1.trans (hbel6.mono hsz1)
            clear hown1 hbelr fin hown3 hown4 hown5 hbel4 hbel5 hgrow5 hown6 hbel6
            go_wp2_with fail
            refine (same_true _ _ _ _ R3 R1 R2).mono ?_
            rintro e w6 ⟨rfl, n6, rfl⟩
            go_wp2_with fail
            refine (dots_any X _ hsz).mono ?_
            rintro e w7 ⟨rfl, rfl⟩
            go_wp2
            go_ret
            exact ⟨rfl, below_draws hbel7⟩
        · clear hm
          go_wp2_with fail
          refine (zzdomains_any a1 _ (by omega)).mono ?_
          rintro e w4 ⟨v4, rfl, hown4, hbel4⟩
          have hown5 := ownsRow_below hown3 hbel4 (ownsRow_lt hown3)
          have hsz4 := hbel4.size
          have hbel5 := hbelr.trans (hbel4.mono (Nat.le_trans hsz2 hnxs))
          go_wp2_with (at_builtin; refine wpList_append_rows rfl _ _ 23 rfl w2.heap.size _ 9 i0 _ 16 Try.underlying23 hi hz0 hz1 hz2 rfl _ _ _ rfl hown5 _ _ _ rfl hown4 (strs_one _) ?_ ?_ ?_ ?_)
          · unfold maxLen; omega
          · omega
          · omega
          · intro v5 w5 hown6 hgrow5
            have hbel6 := hbel5.grown hgrow5 (by omega) (fun j hj => Nat.le_trans hsz2 (hown5.lt j hj).1)
            obtain ⟨R1, R2, R3⟩ := fin v5 w5 _ (E ++ doms a1 a1.size) (by rw [strs, List.map_append]; exact hown6) hbel6 (by rw [hlaw.out, hE.out])
            have hbel7 := hbel1.trans (hbel6.mono hsz1)
            clear hown1 hbelr fin hown3 hown4 hown5 hbel4 hbel5 hgrow5 hown6 hbel6
            go_wp2_with fail
            refine (same_true _ _ _ _ R3 R1 R2).mono ?_
            rintro e w6 ⟨rfl, n6, rfl⟩
            go_wp2_with fail
            refine (dots_any X _ hsz).mono ?_
            rintro e w7 ⟨rfl, rfl⟩
            go_wp2
            go_ret
            exact ⟨rfl, below_draws hbel7⟩

end Go.Proofs.Qxb6609141a
