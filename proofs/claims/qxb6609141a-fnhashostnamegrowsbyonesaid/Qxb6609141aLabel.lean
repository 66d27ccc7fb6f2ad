/-
  The walk of 'FnDomainsLabelInFront'.
-/
import Derived.Test.Qxb6609141aDomWalks
import Derived.Laws.AppendOwnNone
namespace Go.Proofs.Qxb6609141a
open Go.RowKit

theorem ownsRow_below {w w' : World} {base B : Nat} {e : TypeId} {size : Nat} {v : Value} {n : Nat} {xs : List Value} (h : w.ownsRow base e size v n xs) (hb : Below B w w')
    (hB : ∀ k, v.ownBlock = some k → k < B) : w'.ownsRow base e size v n xs := by
  obtain ⟨h1, h2⟩ := h
  refine ⟨h1, ?_⟩
  rcases h2 with h2 | ⟨g, cap, cur, rfl, hg, hh, r⟩
  · exact Or.inl h2
  · exact Or.inr ⟨g, cap, cur, rfl, hg, by rw [hb.block g (hB g rfl)]; exact hh, r⟩

theorem ownsRow_lt {w : World} {base : Nat} {e : TypeId} {size : Nat} {v : Value} {n : Nat} {xs : List Value} (h : w.ownsRow base e size v n xs) : ∀ k, v.ownBlock = some k → k < w.heap.size :=
  fun k hk => (h.lt k hk).2

theorem below_draws {B n : Nat} {a w : World} (h : Below B a w) : Below B a (w.drewN n) := ⟨h.os, h.tape, h.output, h.size, h.block⟩

/-- 'append(want, more...)': both are rows of the call's own. -/
theorem wpList_append_rows {P : Program} {w : World} {ops : Array Oper} {rest : List Oper} {o : Oper} {a : Act} {Q : Exit → Act → World → Prop} (hgd : o.guard = none) (s x : Operand) (t : TypeId)
    (ho : o.op = .call { callee := .builtin .append, args := #[s, x], argTypes := #[t, t] })
    (base base2 : Nat) (e : TypeId) (i : TypeInfo) (z : Value) (bytes : Nat) (ht : P.underlying t = some (.slice e)) (hi : P.info? e = some i) (hz : i.zero = some z)
    (hsize : i.size = 1) (hby : i.bytes = bytes) (hzs : z.cells.size = 1)
    (v : Value) (n : Nat) (xs : List Value) (hs : a.eval s = v) (hown : w.ownsRow base e 1 v n xs)
    (u : Value) (m : Nat) (ys : List Value) (hu : a.eval x = u) (hown2 : w.ownsRow base2 e 1 u m ys) (h1 : ∀ y ∈ ys, y.oneCell' = true)
    (h63 : n + m ≤ maxLen) (hbytes : (n + m) * bytes ≤ 140737488355328) (hbase : base ≤ w.heap.size)
    (h : ∀ v' w', w'.ownsRow base e 1 v' (n + m) (xs ++ ys) → w.grownBy w' v.ownBlock → wpList P ops Q rest (a.put o.dst v') w') : wpList P ops Q (o :: rest) a w := by
  have hk := hown2
  obtain ⟨hl, hr⟩ := hown2
  rcases hr with ⟨rfl, rfl⟩ | ⟨g, cap, cur, rfl, _, hh, _, _, _, _⟩
  · have : ys = [] := List.length_eq_zero_iff.mp (by omega)
    subst this
    refine wpList_append_own_none hgd s x t ho base e i 1 ht hi v n xs hs hown hu ?_
    exact h v w (by simpa using hown) (World.grownBy.refl _ _)
  · exact wpList_append_own w hgd s x t ho base e i z 1 bytes ht hi hz hsize hby hzs (by decide) v n xs hs hown ⟨g, 0, none⟩ m cap ys hu hl
      (hk.cells (g := g) rfl) h1 h63 hbytes hbase (fun v' w' a1 a2 _ => h v' w' a1 a2)

set_option maxHeartbeats 800000 in
theorem label_any (a0 a1 : ByteArray) (w0 : a0.size ≤ maxLen) (w1 : a1.size ≤ maxLen) (w : World) :
    Calls Try.prog 4 #[.string a0, .string a1] w fun e w' => e = .returned (.bool true) ∧ Below w.heap.size w w' := by
  obtain ⟨i0, hi, hz0, hz1, hz2⟩ := info_parts Try.info9
  have W0 := w0
  have W1 := w1
  unfold maxLen at w0 w1
  go_enter Try.func4, Try.ntmps4
  go_wp2_with (go_at_call 11; refine (bytes_any _ _ _ W0 W1).mono ?_; rintro e w ⟨⟨r, rfl⟩, rfl⟩)
  iterate 4 (· go_ret; exact ⟨rfl, Below.refl _ _⟩)
  have s0 : a0.size ≤ 4096 := by omega
  have s1 : a1.size ≤ 4096 := by omega
  have hpos : 1 ≤ a0.size := by
    have h0 : ((a0.size : Int) == 0) = false := by assumption
    have : ¬ (a0.size : Int) = 0 := by simpa using h0
    omega
  clear w0 w1 W0 W1
  go_loop [5] (fun i => ∃ k : Nat, k ≤ a0.size ∧ i = .int .i64 k ∧ Hid (∀ j, j < k → ¬ a0.data[j]? = some 46)) (fun i => a0.size - (intOf i).toNat)
  case atStart => exact ⟨0, Nat.zero_le _, rfl, fun j hj => by omega⟩
  case round =>
    obtain ⟨k, hk, rfl, hno⟩ := hrel
    by_cases hlt : k < a0.size
    · go_wp2
      · go_ret
        exact ⟨rfl, Below.refl _ _⟩
      · go_round
        case rel =>
          refine ⟨k + 1, by omega, by go_num, ?_⟩
          intro j hj he
          by_cases h : j = k
          · subst h
            have h0 : ((a0[j].toNat : Int) == 46) = false := by assumption
            have h1 : ¬ (a0[j].toNat : Int) = 46 := by simpa using h0
            rw [Array.getElem?_eq_getElem (by exact hlt)] at he
            have h2 : a0[j] = 46 := Option.some.inj he
            apply h1; rw [h2]; rfl
          · exact hno.out j (by omega) he
        case measure => simp [intOf]; omega
    · have hke : k = a0.size := by omega
      subst hke
      have hlaw : Hid _ := doms_label a0 a1 hpos hno.out
      have hsz : (a0 ++ { data := #[46] } ++ a1).size ≤ 1000000 := by
        rw [ByteArray.size_append, ByteArray.size_append]; show a0.size + 1 + a1.size ≤ _; omega
      generalize hX : a0 ++ { data := #[46] } ++ a1 = X at hlaw hsz
      have hdl := doms_le a1 a1.size
      clear hno hk hlt
      go_wp2_with fail
      clear hX
      refine (zzdomains_any X w hsz).mono ?_
      rintro e w1 ⟨v1, rfl, hown1, hbel1⟩
      have hsz1 := hbel1.size
      have hown2 : (w1.alloc (.cells #[.string a1] 9)).ownsRow w1.heap.size 9 1 (.slice (some ⟨w1.heap.size, 0, none⟩) 1 1) 1 [.string a1] := by
        refine ⟨rfl, Or.inr ⟨w1.heap.size, 1, #[.string a1], rfl, Nat.le_refl _, ?_, Nat.le_refl _, by decide, rfl, rfl⟩⟩
        show (w1.heap.push _)[w1.heap.size]? = _
        simp
      have hbel2 : Below w1.heap.size w1 (w1.alloc (.cells #[.string a1] 9)) := (Below.refl _ _).alloc (Nat.le_refl _) _
      have fin : ∀ (v2 : Value) (w2 : World) (n : Nat) (xs : List ByteArray), w2.ownsRow w1.heap.size 9 1 v2 n (strs xs) → Below w1.heap.size w1 w2 → doms X X.size = xs → Row w2 v1 xs ∧ Row w2 v2 xs ∧ xs.length ≤ 1000000000 := by
        intro v2 w2 n xs h2 hb hx
        subst hx
        have hn : n = (doms X X.size).length := by have := h2.1; simp [strs] at this; omega
        subst hn
        have := doms_le X X.size
        exact ⟨Row.of (ownsRow_below hown1 hb (ownsRow_lt hown1)), Row.of h2, by omega⟩
      by_cases hd : a1.data[0]? = some 46
      · have hp : 0 < a1.size := by
          have h := (Array.getElem?_eq_some_iff.mp hd).1
          exact h
        have hl : lead a1 = [a1.extract 1 a1.size] := by simp [lead, hd]
        have h46 : ((a1[0].toNat : Int) == 46) = true := by
          rw [Array.getElem?_eq_getElem (by exact hp)] at hd
          have h2 : a1[0] = 46 := Option.some.inj hd
          rw [h2]; rfl
        clear hd
        go_wp2_with (at_builtin; refine wpList_append_own _ rfl _ _ 23 rfl w1.heap.size 9 i0 (.string ByteArray.empty) 1 16 Try.underlying23 hi hz0 hz1 hz2 rfl (by decide) _ _ _ rfl (hown2.alloc _) ⟨w1.heap.size + 1, 0, none⟩ 1 1 [.string (a1.extract 1 a1.size)] ?_ rfl ?_ ?_ ?_ ?_ ?_ ?_)
        · rfl
        · intro j u hj
          match j, hj with
          | 0, hj => simp at hj; subst hj; simp [Addr.add]
        · intro u hu; simp at hu; subst hu; rfl
        · decide
        · decide
        · simp; omega
        · intro v7 w7 hown7 hgrow7 _
          have hbel7 := (hbel2.alloc (by simp) _).grown hgrow7 (by simp; omega) (fun j hj => (hown2.lt j hj).1)
          clear hown2 hgrow7
          go_wp2_with fail
          refine (zzdomains_any a1 _ (by omega)).mono ?_
          rintro e w3 ⟨v3, rfl, hown3, hbel3⟩
          have hown4 := ownsRow_below hown7 hbel3 (ownsRow_lt hown7)
          have hsz3 := hbel3.size
          have hszB := hbel7.size
          have hbel4 := hbel7.trans (hbel3.mono hszB)
          go_wp2_with (at_builtin; refine wpList_append_rows rfl _ _ 23 rfl w1.heap.size _ 9 i0 _ 16 Try.underlying23 hi hz0 hz1 hz2 rfl _ _ _ rfl hown4 _ _ _ rfl hown3 (strs_one _) ?_ ?_ ?_ ?_)
          · unfold maxLen; omega
          · omega
          · exact Nat.le_trans hszB hsz3
          · intro v5 w5 hown5 hgrow5
            have hbel5 := hbel4.grown hgrow5 (Nat.le_trans hszB hsz3) (fun j hj => (hown4.lt j hj).1)
            obtain ⟨R1, R2, R3⟩ := fin v5 w5 _ (a1 :: a1.extract 1 a1.size :: doms a1 a1.size) hown5 hbel5 (by rw [hlaw.out, hl]; rfl)
            have hbel6 := hbel1.trans (hbel5.mono hsz1)
            clear hown1 hown7 hbel2 hbel7 fin hown3 hown4 hbel3 hbel4 hgrow5 hown5 hbel5
            go_wp2_with fail
            refine (same_true _ _ _ _ R3 R1 R2).mono ?_
            rintro e w6 ⟨rfl, n6, rfl⟩
            go_wp2
            go_ret
            exact ⟨rfl, below_draws hbel6⟩
      · have hl : lead a1 = [] := by simp [lead, hd]
        by_cases hp : 0 < a1.size
        · have h46 : ((a1[0].toNat : Int) == 46) = false := by
            rw [beq_eq_false_iff_ne]
            intro h
            apply hd
            rw [Array.getElem?_eq_getElem (by exact hp)]
            congr 1
            apply UInt8.toNat_inj.mp
            have : a1[0].toNat = 46 := by omega
            exact this
          clear hd
          go_wp2_with fail
          refine (zzdomains_any a1 _ (by omega)).mono ?_
          rintro e w3 ⟨v3, rfl, hown3, hbel3⟩
          have hown4 := ownsRow_below hown2 hbel3 (ownsRow_lt hown2)
          have hsz3 := hbel3.size
          have hszB := hbel2.size
          have hbel4 := hbel2.trans (hbel3.mono hszB)
          go_wp2_with (at_builtin; refine wpList_append_rows rfl _ _ 23 rfl w1.heap.size _ 9 i0 _ 16 Try.underlying23 hi hz0 hz1 hz2 rfl _ _ _ rfl hown4 _ _ _ rfl hown3 (strs_one _) ?_ ?_ ?_ ?_)
          · unfold maxLen; omega
          · omega
          · exact Nat.le_trans hszB hsz3
          · intro v5 w5 hown5 hgrow5
            have hbel5 := hbel4.grown hgrow5 (Nat.le_trans hszB hsz3) (fun j hj => (hown4.lt j hj).1)
            obtain ⟨R1, R2, R3⟩ := fin v5 w5 _ (a1 :: doms a1 a1.size) hown5 hbel5 (by rw [hlaw.out, hl]; rfl)
            have hbel6 := hbel1.trans (hbel5.mono hsz1)
            clear hown1 hown2 hbel2 fin hown3 hown4 hbel3 hbel4 hgrow5 hown5 hbel5
            go_wp2_with fail
            refine (same_true _ _ _ _ R3 R1 R2).mono ?_
            rintro e w6 ⟨rfl, n6, rfl⟩
            go_wp2
            go_ret
            exact ⟨rfl, below_draws hbel6⟩
        · clear hd
          go_wp2_with fail
          refine (zzdomains_any a1 _ (by omega)).mono ?_
          rintro e w3 ⟨v3, rfl, hown3, hbel3⟩
          have hown4 := ownsRow_below hown2 hbel3 (ownsRow_lt hown2)
          have hsz3 := hbel3.size
          have hszB := hbel2.size
          have hbel4 := hbel2.trans (hbel3.mono hszB)
          go_wp2_with (at_builtin; refine wpList_append_rows rfl _ _ 23 rfl w1.heap.size _ 9 i0 _ 16 Try.underlying23 hi hz0 hz1 hz2 rfl _ _ _ rfl hown4 _ _ _ rfl hown3 (strs_one _) ?_ ?_ ?_ ?_)
          · unfold maxLen; omega
          · omega
          · exact Nat.le_trans hszB hsz3
          · intro v5 w5 hown5 hgrow5
            have hbel5 := hbel4.grown hgrow5 (Nat.le_trans hszB hsz3) (fun j hj => (hown4.lt j hj).1)
            obtain ⟨R1, R2, R3⟩ := fin v5 w5 _ (a1 :: doms a1 a1.size) hown5 hbel5 (by rw [hlaw.out, hl]; rfl)
            have hbel6 := hbel1.trans (hbel5.mono hsz1)
            clear hown1 hown2 hbel2 fin hown3 hown4 hbel3 hbel4 hgrow5 hown5 hbel5
            go_wp2_with fail
            refine (same_true _ _ _ _ R3 R1 R2).mono ?_
            rintro e w6 ⟨rfl, n6, rfl⟩
            go_wp2
            go_ret
            exact ⟨rfl, below_draws hbel6⟩

end Go.Proofs.Qxb6609141a
