/-
  The walk of 'FnHasHostnameSetAgreesWithList'.
-/
import Derived.Test.Qxb6609141aHost2
import Derived.Test.Qxb6609141aLabel
namespace Go.Proofs.Qxb6609141a
open Go.RowKit

/-- No list without repeats that lies in another is longer. -/
theorem length_le_of_sub : ∀ (l ks : List ByteArray), l.Nodup → (∀ x ∈ l, x ∈ ks) → l.length ≤ ks.length
  | [], _, _, _ => Nat.zero_le _
  | x :: l, ks, hn, hs => by
    obtain ⟨s, t, rfl⟩ := List.append_of_mem (hs x (by simp))
    have h1 := length_le_of_sub l (s ++ t) (List.nodup_cons.mp hn).2 (fun y hy => by
      have hne : y ≠ x := fun e => (List.nodup_cons.mp hn).1 (e ▸ hy)
      have := hs y (by simp [hy])
      simp [hne] at this ⊢
      exact this)
    simp at h1 ⊢
    omega

theorem nodup_of_fits (l : List ByteArray) (h : ∀ j (h : j < l.length), hasB (l.take j) l[j] = false) : l.Nodup := by
  rw [List.nodup_iff_pairwise_ne, List.pairwise_iff_getElem]
  intro i j hi hj hij he
  have h1 := h j hj
  have h2 : l[j] ∈ l.take j := by
    rw [← he]
    exact List.mem_take_iff_getElem.mpr ⟨i, by omega, rfl⟩
  rw [(hasB_iff _ _).mpr h2] at h1
  cases h1

theorem answer_eq {l : List ByteArray} {mv : Option Nat} {f : ByteArray → Bool} {ks : List ByteArray} (hf : Fits l mv f ks) (hm : ∀ s, f s = true → s ∈ ks) (h : ByteArray) : answer l mv f h = hasB l h := by
  cases mv with
  | none => rfl
  | some m =>
    obtain ⟨h1, h2⟩ := hf
    obtain ⟨h2, h3⟩ := h2 (by simp)
    have hnd := nodup_of_fits l h1
    have hsub : ∀ x ∈ l, f x = true := fun x hx => by
      obtain ⟨j, hj, rfl⟩ := List.getElem_of_mem hx
      exact h3 j hj
    show f h = hasB l h
    by_cases hh : h ∈ l
    · rw [hsub h hh, (hasB_iff l h).mpr hh]
    · have hb : hasB l h = false := by
        cases hb : hasB l h with
        | false => rfl
        | true => exact absurd ((hasB_iff l h).mp hb) hh
      rw [hb]
      cases hfh : f h with
      | false => rfl
      | true =>
        have := length_le_of_sub (h :: l) ks (List.nodup_cons.mpr ⟨hh, hnd⟩) (fun x hx => by
          rcases List.mem_cons.mp hx with rfl | hx
          · exact hm _ hfh
          · exact hm _ (hsub x hx))
        simp at this
        omega

set_option maxHeartbeats 1600000 in
theorem agree_any (ao : Option Addr) (cap : Nat) (l : List ByteArray) (mv : Option Nat) (f : ByteArray → Bool) (ks : List ByteArray) (h : ByteArray) (w : World) (hcap : l.length ≤ cap) (hcm : cap ≤ maxLen)
    (ha : l ≠ [] → ∃ b off, ao = some ⟨b, off, none⟩ ∧ ∀ j (h : j < l.length), w.cell? ⟨b, off + j, none⟩ = some (.string l[j])) (hs : ∀ x ∈ l, x.size ≤ maxLen) (hm : MapFact w mv f ks) (hh : h.size ≤ maxLen) :
    Calls Try.prog 5 #[.slice ao l.length cap, .map mv, .string h] w fun e w' => e = .returned (.bool true) ∧ Below w.heap.size w w' := by
  have hsm : (ks.length : Int) ≤ 9223372036854775807 := by have := hm.small; unfold maxLen at this; omega
  have hll : (l.length : Int) ≤ 9223372036854775807 := by unfold maxLen at hcm; omega
  have hh2 : (h.size : Int) ≤ 9223372036854775807 := by unfold maxLen at hh; omega
  have hlen : ∀ ty, (Builtin.len_ #[27] ty #[.map mv]).run Try.prog w = .ok (.int .i64 ks.length) w := fun ty => hm.len w (fun _ _ => rfl) ty
  go_enter Try.func5, Try.ntmps5
  go_wp2_with (first
    | (go_at_call 12; refine (addBytes_any _ _ l _ (by omega) ⟨ao, cap, rfl, ha⟩).mono ?_; rintro e w' ⟨⟨r, rfl⟩, hw'⟩; subst hw')
    | (go_at_call 13; refine (fit_any ao cap l mv f ks _ (by omega) hcap ha hs hm).mono ?_; rintro e w' ⟨⟨r2, rfl, hfit⟩, nq, hw'⟩; subst hw'))
  iterate 4 (· go_ret; exact ⟨rfl, Below.refl _ _⟩)
  · go_ret; exact ⟨rfl, below_draws (Below.refl _ _)⟩
  have hl4 : l.length ≤ 1000000 := by omega
  have hfits : Hid (Fits l mv f ks) := by
    have h0 : (!r2) = false := by assumption
    exact hfit (by simpa using h0)
  have hans : Hid (answer l mv f h = hasB l h) := answer_eq hfits.out hm.mem h
  have hbase : ∀ n, Below w'.heap.size w' (w'.drewN n) := fun n => below_draws (Below.refl _ _)
  clear hfit hfits hlen hsm
  have haq : Hid (l ≠ [] → ∃ b off, ao = some ⟨b, off, none⟩ ∧ ∀ j (h : j < l.length), (w'.drewN nq).cell? ⟨b, off + j, none⟩ = some (.string l[j])) := ha
  have hmq : Hid (∀ wx, Kept (w'.drewN nq) wx mv → ∀ s : ByteArray, s.size ≤ maxLen → (Instr.lookup 27 (.map mv) (.string s) false).run Try.prog wx = .ok (.bool (f s)) wx) := hm.look
  have hltq : Hid (∀ b, mv = some b → b < (w'.drewN nq).heap.size) := hm.lt
  clear ha hm
  have hb0 := hbase nq
  clear hbase
  generalize w'.drewN nq = wq at haq hmq hltq hb0 ⊢
  have hszq := hb0.size
  go_loop [7, 31] (fun m i => ∃ j : Nat, j ≤ l.length ∧ i = .int .i64 j ∧ m = .bool (hasB (l.take j) h)) (fun _ i => l.length - (intOf i).toNat)
  case atStart => exact ⟨0, Nat.zero_le _, rfl, rfl⟩
  case round =>
    obtain ⟨j, hj, rfl, rfl⟩ := hrel
    by_cases hlt : j < l.length
    · obtain ⟨b1, o1, rfl, c1⟩ := haq.out (by intro h; rw [h] at hlt; simp at hlt)
      have d1 := c1 j hlt
      clear c1
      go_wp2
      · have he : (l[j].toList == h.toList) = true := by assumption
        go_round
        case rel => exact ⟨j + 1, by omega, by go_num, by rw [hasB_succ l h j hlt, he, Bool.or_true]⟩
        case measure => simp [intOf]; omega
      · have he : (l[j].toList == h.toList) = false := by assumption
        go_round
        case rel => exact ⟨j + 1, by omega, by go_num, by rw [hasB_succ l h j hlt, he, Bool.or_false]⟩
        case measure => simp [intOf]; omega
    · have hjl : j = l.length := by omega
      subst hjl
      rw [List.take_length]
      go_wp2_with fail
      refine (new_any _ _ _ _ _).mono ?_
      rintro e w1 ⟨rfl, hw1⟩
      have hb1 := (Below.refl wq.heap.size wq).alloc (Nat.le_refl _) (.cells #[.nilIface, .int .i64 0, .int .i64 0, .bool false, .int .i64 0, .int .i64 0, .slice ao l.length cap, .map mv] 40)
      rw [← hw1] at hb1
      have hc1 : Cont w1 wq.heap.size (.slice ao l.length cap) mv := by subst hw1; exact ⟨by simp, by simp⟩
      have hsz1 : w1.heap.size = wq.heap.size + 1 := by subst hw1; simp
      clear hw1
      go_wp2_with fail
      refine (zzhas_any _ ao cap l mv f h _ hl4 hc1 ?_ ?_).mono ?_
      · intro hne
        obtain ⟨b, off, rfl, hc⟩ := haq.out hne
        exact ⟨b, off, rfl, fun j hj => by rw [hb1.cell (World.block_lt_of_cell? _ _ (hc j hj))]; exact hc j hj⟩
      · rintro m rfl
        refine hmq.out w1 ?_ h hh
        exact fun b hb => hb1.block b (hltq.out b hb)
      rintro e w2 ⟨he, rfl⟩
      rw [hans.out] at he
      subst he
      go_wp2_with fail
      refine (new_any _ _ _ _ _).mono ?_
      rintro e w3 ⟨rfl, hw3⟩
      have hb3 := (Below.refl w2.heap.size w2).alloc (Nat.le_refl _) (.cells #[.nilIface, .int .i64 0, .int .i64 0, .bool false, .int .i64 0, .int .i64 0, .slice ao l.length cap, .map none] 40)
      rw [← hw3] at hb3
      have hc3 : Cont w3 w2.heap.size (.slice ao l.length cap) none := by subst hw3; exact ⟨by simp, by simp⟩
      have hb4 := hb1.trans (hb3.mono (by omega))
      clear hw3
      go_wp2_with fail
      rw [← hsz1]
      refine (zzhas_any _ ao cap l none f h _ hl4 hc3 ?_ ?_).mono ?_
      · intro hne
        obtain ⟨b, off, rfl, hc⟩ := haq.out hne
        exact ⟨b, off, rfl, fun j hj => by rw [hb4.cell (World.block_lt_of_cell? _ _ (hc j hj))]; exact hc j hj⟩
      · intro m hm; cases hm
      rintro e w5 ⟨he, rfl⟩
      have he2 : e = .returned (.bool (hasB l h)) := he
      subst he2
      have hb5 := hb0.trans (hb4.mono hszq)
      clear he
      generalize hasB l h = r5
      go_wp2
      go_ret
      exact ⟨rfl, hb5⟩

end Go.Proofs.Qxb6609141a
