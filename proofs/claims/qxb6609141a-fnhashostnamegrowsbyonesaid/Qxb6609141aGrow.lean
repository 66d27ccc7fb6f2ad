/-
  The walk of 'FnHasHostnameGrowsByOne'.
-/
import Derived.Test.Qxb6609141aAgree
import Derived.Test.Qxb6609141aOpen
namespace Go.Proofs.Qxb6609141a
open Go.RowKit Go.ChangeShapes Go.WideShapes Go.ChangeAt Go.WideMaps Go.WideElems Go.Maps

theorem hideIt {p : Prop} (h : p) : Hid p := h

theorem hosts_nil {H : Type} {enc : TypeId × Value → H} {W : World} {a : Option Addr} {len cap : Nat} {d : DataW H} {p : List MemPlace}
    (h : DataW.Trod enc Try.prog W 0 (fun _ => true) true 23 (.slice a len cap) d p) : a = none → len = 0 ∧ cap = 0 := by
  obtain ⟨fuel, hf⟩ := h
  rcases open_strings Try.underlying23 Try.underlying9 Try.cells9 hf with ⟨hcs, _⟩ | ⟨a', len', cap', ss, hcs, _⟩
  · simp [Value.cells] at hcs
    exact fun _ => ⟨hcs.2.1, hcs.2.2⟩
  · simp [Value.cells] at hcs
    intro h; rw [h] at hcs; cases hcs.1

theorem hasB_snoc (l : List ByteArray) (x h : ByteArray) : hasB (l ++ [x]) h = (hasB l h || (x.toList == h.toList)) := by
  unfold hasB; rw [List.any_append]; simp

theorem hasB_snoc_self (l : List ByteArray) (x : ByteArray) : hasB (l ++ [x]) x = true := by rw [hasB_snoc]; simp

theorem row_cells {w : World} {B : Nat} {g n cap : Nat} {l : List ByteArray} (h : w.ownsRow B 9 1 (.slice (some ⟨g, 0, none⟩) n cap) n (strs l)) :
    l ≠ [] → ∃ b off, (some ⟨g, 0, none⟩ : Option Addr) = some ⟨b, off, none⟩ ∧ ∀ j (h : j < l.length), w.cell? ⟨b, off + j, none⟩ = some (.string l[j]) := by
  intro _
  refine ⟨g, 0, rfl, fun j hj => ?_⟩
  have hl := h.1
  simp [strs] at hl
  rw [Nat.zero_add, h.cellAt j (by omega)]
  simp [strs, hj]

set_option maxHeartbeats 1600000 in
theorem grow_any (ao : Option Addr) (cap : Nat) (l : List ByteArray) (mv : Option Nat) (f : ByteArray → Bool) (ks : List ByteArray) (x h : ByteArray) (w : World) (hcap : l.length ≤ cap) (hcm : cap ≤ maxLen)
    (ha : l ≠ [] → ∃ b off, ao = some ⟨b, off, none⟩ ∧ ∀ j (h : j < l.length), w.cell? ⟨b, off + j, none⟩ = some (.string l[j])) (hnil : ao = none → l.length = 0 ∧ cap = 0) (hs : ∀ x ∈ l, x.size ≤ maxLen) (hm : MapFact w mv f ks) (hx : x.size ≤ maxLen) (hh : h.size ≤ maxLen) :
    Calls Try.prog 6 #[.slice ao l.length cap, .map mv, .string x, .string h] w fun e w' => e = .returned (.bool true) ∧ Below w.heap.size w w' := by
  obtain ⟨i0, hi, hz0, hz1, hz2⟩ := info_parts Try.info9
  have hsm : (ks.length : Int) ≤ 9223372036854775807 := by have := hm.small; unfold maxLen at this; omega
  have hll : (l.length : Int) ≤ 9223372036854775807 := by unfold maxLen at hcm; omega
  have hh2 : (h.size : Int) ≤ 9223372036854775807 := by unfold maxLen at hh; omega
  have hx2 : (x.size : Int) ≤ 9223372036854775807 := by unfold maxLen at hx; omega
  have hlen : ∀ ty, (Builtin.len_ #[27] ty #[.map mv]).run Try.prog w = .ok (.int .i64 ks.length) w := fun ty => hm.len w (fun _ _ => rfl) ty
  go_enter Try.func6, Try.ntmps6
  go_wp2_with (first
    | (go_at_call 12; refine (addBytes_any _ _ l _ (by omega) ⟨ao, cap, rfl, ha⟩).mono ?_; rintro e w' ⟨⟨r, rfl⟩, hw'⟩; subst hw')
    | (go_at_call 13; refine (fit_any ao cap l mv f ks _ (by omega) hcap ha hs hm).mono ?_; rintro e w' ⟨⟨r2, rfl, hfit⟩, nq, hw'⟩; subst hw'))
  iterate 5 (· go_ret; exact ⟨rfl, Below.refl _ _⟩)
  · go_ret; exact ⟨rfl, below_draws (Below.refl _ _)⟩
  have hl4 : l.length ≤ 1000000 := by omega
  have hl5 : l.length ≤ 4096 := by omega
  have hfits : Hid (Fits l mv f ks) := by
    have h0 : (!r2) = false := by assumption
    exact hfit (by simpa using h0)
  have hans : Hid (answer l mv f h = hasB l h) := answer_eq hfits.out hm.mem h
  have hb0 : Below w'.heap.size w' (w'.drewN nq) := below_draws (Below.refl _ _)
  clear hfit hfits hlen hsm
  have haq : Hid (l ≠ [] → ∃ b off, ao = some ⟨b, off, none⟩ ∧ ∀ j (h : j < l.length), (w'.drewN nq).cell? ⟨b, off + j, none⟩ = some (.string l[j])) := ha
  have hmq : Hid (∀ wx, Kept (w'.drewN nq) wx mv → ∀ s : ByteArray, s.size ≤ maxLen → (Instr.lookup 27 (.map mv) (.string s) false).run Try.prog wx = .ok (.bool (f s)) wx) := hm.look
  have hltq : Hid (∀ b, mv = some b → b < (w'.drewN nq).heap.size) := hm.lt
  clear ha hm
  generalize w'.drewN nq = wq at haq hmq hltq hb0 ⊢
  have hszq := hb0.size
  refine (hasKey_any _ l x _ hl4 ⟨ao, cap, rfl, haq.out⟩).mono ?_
  rintro e wq ⟨rfl, rfl⟩
  by_cases hkx : hasB l x = true
  · go_wp2
    go_ret
    exact ⟨rfl, hb0⟩
  have hkx2 : hasB l x = false := by simpa using hkx
  clear hkx
  go_wp2_with (at_make; refine wpList_make_own _ rfl _ _ 23 rfl wq.heap.size 9 i0 (.string ByteArray.empty) 1 Try.underlying23 hi hz0 hz1 .i64 .i64 _ (l.length + 1) rfl rfl ?_ ?_ ?_ (Nat.le_refl _) ?_)
  · omega
  · rw [hz2]; omega
  · unfold maxLen; omega
  intro w1 hown1 hgrow1
  have hbel1 := (Below.refl wq.heap.size wq).grown hgrow1 (Nat.le_refl _) (fun j hj => by cases hj)
  have hcellq : Hid (∀ (wx : World), Below wq.heap.size wq wx → l ≠ [] → ∃ b off, ao = some ⟨b, off, none⟩ ∧ ∀ j (h : j < l.length), wx.cell? ⟨b, off + j, none⟩ = some (.string l[j])) := by
    intro wx hb hne
    obtain ⟨b, off, rfl, hc⟩ := haq.out hne
    exact ⟨b, off, rfl, fun j hj => by rw [hb.cell (World.block_lt_of_cell? _ _ (hc j hj))]; exact hc j hj⟩
  clear haq
  go_wp2_with (at_builtin; refine wpList_append_fits_any _ rfl _ _ 23 rfl wq.heap.size 9 i0 1 Try.underlying23 hi hz1 wq.heap.size 0 (l.length + 1) [] rfl hown1 ao l.length cap (strs l) rfl ?_ hnil ?_ (strs_one _) ?_ ?_)
  · simp [strs]
  · intro ad had j u hu
    have hj : j < l.length := by
      have := (List.getElem?_eq_some_iff.mp hu).1
      simpa [strs] using this
    obtain ⟨b, off, e0, hc⟩ := hcellq.out w1 hbel1 (by rintro rfl; simp at hj)
    rw [had] at e0
    cases e0
    rw [Go.WideShapes.add_plain, hc j hj]
    rw [← hu]; simp [strs, hj]
  · omega
  intro w2 hown2 hgrow2
  have hbel2 := hbel1.grown hgrow2 (Nat.le_trans (Nat.le_refl _) hbel1.size) (fun j hj => by cases hj; exact Nat.le_refl _)
  clear hown1 hgrow1 hgrow2
  have hsz2 := hbel2.size
  have hlt2 : wq.heap.size < w2.heap.size := (hown2.lt _ rfl).2
  go_wp2_with (at_builtin; refine wpList_append_fits _ rfl _ _ 23 rfl wq.heap.size 9 i0 1 Try.underlying23 hi hz1 wq.heap.size l.length (l.length + 1) _ rfl (hown2.alloc _) ⟨w2.heap.size, 0, none⟩ 1 1 [.string x] rfl rfl ?_ ?_ (Nat.le_refl _) ?_)
  · intro t u ht
    match t, ht with
    | 0, ht => simp at ht; subst ht; simp [Addr.add]
  · intro u hu; simp at hu; subst hu; rfl
  intro w3 hown3 hgrow3
  have hbel3 := (hbel2.alloc hsz2 _).grown hgrow3 (by simp; omega) (fun j hj => by cases hj; exact Nat.le_refl _)
  have hsz3 : w2.heap.size + 1 ≤ w3.heap.size := by have := hgrow3.size; simpa using this
  have hown4 : w3.ownsRow wq.heap.size 9 1 (.slice (some ⟨wq.heap.size, 0, none⟩) (l.length + 1) (l.length + 1)) (l.length + 1) (strs (l ++ [x])) := by
    rw [strs, List.map_append]; exact hown3
  clear hown2 hown3 hgrow3 hbel2 hbel1 hi hz0 hz1 hz2 hnil
  go_wp2_with fail
  refine (new_any _ _ _ _ _).mono ?_
  rintro e w4 ⟨rfl, hw4⟩
  have hb4 := (Below.refl w3.heap.size w3).alloc (Nat.le_refl _) (.cells #[.nilIface, .int .i64 0, .int .i64 0, .bool false, .int .i64 0, .int .i64 0, .slice ao l.length cap, .map mv] 40)
  rw [← hw4] at hb4
  have hc4 : Cont w4 w3.heap.size (.slice ao l.length cap) mv := by subst hw4; exact ⟨by simp, by simp⟩
  have hsz4 : w4.heap.size = w3.heap.size + 1 := by subst hw4; simp
  clear hw4
  go_wp2_with fail
  refine (new_any _ _ _ _ _).mono ?_
  rintro e w5 ⟨rfl, hw5⟩
  have hb5 := (Below.refl w4.heap.size w4).alloc (Nat.le_refl _) (.cells #[.nilIface, .int .i64 0, .int .i64 0, .bool false, .int .i64 0, .int .i64 0, .slice (some ⟨wq.heap.size, 0, none⟩) (l.length + 1) (l.length + 1), .map none] 40)
  rw [← hw5] at hb5
  have hll1 : (l ++ [x]).length = l.length + 1 := by simp
  have hc5 : Cont w5 w4.heap.size (.slice (some ⟨wq.heap.size, 0, none⟩) (l ++ [x]).length (l.length + 1)) none := by rw [hll1]; subst hw5; exact ⟨by simp, by simp⟩
  clear hw5
  have hc45 : Cont w5 w3.heap.size (.slice ao l.length cap) mv := ⟨by rw [hb5.cell (by show w3.heap.size < _; omega)]; exact hc4.1, by rw [hb5.cell (by show w3.heap.size < _; omega)]; exact hc4.2⟩
  have hb35 := hb4.trans (hb5.mono (by omega))
  have hown5 := ownsRow_below hown4 hb35 (ownsRow_lt hown4)
  have hbq5 := hbel3.trans (hb35.mono (by omega))
  have hfin := hb0.trans (hbq5.mono hszq)
  have CX : Hid (∀ s : ByteArray, Calls Try.prog 14 #[.pointer (some ⟨w4.heap.size, 0, none⟩), .string s] w5 fun e w' => e = .returned (.bool (hasB (l ++ [x]) s)) ∧ w' = w5) := by
    intro s
    refine (zzhas_any w4.heap.size _ _ (l ++ [x]) none f s w5 (by omega) hc5 (row_cells hown5) ?_).mono ?_
    · intro m hm; cases hm
    · rintro e w' ⟨he, hw⟩
      exact ⟨he, hw⟩
  have CO : Hid (Calls Try.prog 14 #[.pointer (some ⟨w3.heap.size, 0, none⟩), .string h] w5 fun e w' => e = .returned (.bool (hasB l h)) ∧ w' = w5) := by
    have := zzhas_any w3.heap.size ao cap l mv f h w5 hl4 hc45 (hcellq.out w5 hbq5) ?_
    · rw [hans.out] at this; exact this
    · rintro m rfl
      exact hmq.out w5 (fun b hb => hbq5.block b (hltq.out b hb)) h hh
  clear hcellq hmq hltq hans hown4 hown5 hc4 hc5 hc45 hb4 hb5 hb35 hbel3 hbq5
  clear hsz4 hll1
  go_wp2_with fail
  refine (CX.out x).mono ?_
  rintro e w6 ⟨he, rfl⟩
  rw [hasB_snoc_self] at he
  subst he
  by_cases heq : (h.toList == x.toList) = true
  · have hxh : (x.toList == h.toList) = true := by rw [beq_iff_eq] at heq ⊢; exact heq.symm
    have C2 := CX.out h
    rw [hasB_snoc, hxh, Bool.or_true] at C2
    have HC2 := hideIt C2
    clear C2 CX CO hxh
    go_wp2_with fail
    refine HC2.out.mono ?_
    rintro e w7 ⟨rfl, rfl⟩
    go_wp2
    go_ret
    exact ⟨rfl, hfin⟩
  · have heq2 : (h.toList == x.toList) = false := by simpa using heq
    clear heq
    have hxh : (x.toList == h.toList) = false := by
      rw [beq_eq_false_iff_ne] at heq2 ⊢; exact fun e => heq2 e.symm
    have C2 := CX.out h
    rw [hasB_snoc, hxh, Bool.or_false] at C2
    have HC2 := hideIt C2
    clear C2 CX hxh
    generalize hasB l h = r9 at HC2 CO
    go_wp2_with fail
    refine HC2.out.mono ?_
    rintro e w7 ⟨rfl, rfl⟩
    go_wp2_with fail
    refine CO.out.mono ?_
    rintro e w8 ⟨rfl, rfl⟩
    go_wp2
    go_ret
    exact ⟨rfl, hfin⟩

end Go.Proofs.Qxb6609141a
