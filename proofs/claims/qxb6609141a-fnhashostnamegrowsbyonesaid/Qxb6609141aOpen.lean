/-
  From a reading of the arguments to what the walks are told: a slice of strings, a map from strings to bools.
-/
import Derived.Test.Qxb6609141aHost
import Derived.ProofKit
import Derived.OpenShut
import Derived.SliceStrings
namespace Go.Proofs.Qxb6609141a
open Go.RowKit Go.ChangeShapes Go.WideShapes Go.ChangeAt Go.WideMaps Go.WideElems Go.Maps

theorem Try.cells9 : Try.prog.cellsOf 9 = 1 := by kernel_rfl

/-- A slice of strings that came in. -/
theorem open_hosts {H : Type} {enc : TypeId × Value → H} {W : World} {a : Option Addr} {len cap : Nat} {d : DataW H} {p : List MemPlace}
    (h : DataW.Trod enc Try.prog W 0 (fun _ => true) true 23 (.slice a len cap) d p) :
    ∃ l : List ByteArray, len = l.length ∧ l.length ≤ cap ∧ cap ≤ maxLen ∧ (∀ x ∈ l, x.size ≤ maxLen) ∧
      (l ≠ [] → ∃ b off, a = some ⟨b, off, none⟩ ∧ ∀ j (h : j < l.length), W.cell? ⟨b, off + j, none⟩ = some (.string l[j])) := by
  obtain ⟨fuel, hf⟩ := h
  rcases open_strings Try.underlying23 Try.underlying9 Try.cells9 hf with ⟨hcs, _⟩ | ⟨a', len', cap', ss, hcs, _, hl, hm, hz, _, hcell, hws⟩
  · simp [Value.cells] at hcs
    obtain ⟨rfl, rfl, rfl⟩ := hcs
    exact ⟨[], rfl, Nat.le_refl _, Nat.zero_le _, by simp, fun h => absurd rfl h⟩
  · simp [Value.cells] at hcs
    obtain ⟨rfl, rfl, rfl⟩ := hcs
    have hz' : ss.length = cap := by simpa using hz
    have hlen : (ss.take len).length = len := by rw [List.length_take]; omega
    refine ⟨ss.take len, hlen.symm, by omega, hm, fun x hx => hws x (List.mem_of_mem_take hx), fun hne => ?_⟩
    have hpos : 0 < len := by
      rcases Nat.eq_zero_or_pos len with h0 | h0
      · subst h0; simp at hne
      · exact h0
    obtain ⟨b, off, spot⟩ := a'
    have hspot : spot = none := by simpa [Addr.add] using World.cell?_spot (hcell 0 (by omega))
    subst hspot
    refine ⟨b, off, rfl, fun j hj => ?_⟩
    have hj2 : j < ss.length := by omega
    have := hcell j hj2
    rw [Go.WideShapes.add_plain] at this
    rw [this]
    simp [hj2]

theorem zero4 (w : World) : (zeroValue 4).run Try.prog w = .ok (.bool false) w := by kernel_rfl

/-- The bytes of a key. -/
def keyBytes : Value → ByteArray
  | .string s => s
  | _ => ByteArray.empty

/-- A map from strings to bools that came in. -/
theorem open_given {H : Type} {enc : TypeId × Value → H} {W : World} {mv : Option Nat} {d : DataW H} {p : List MemPlace}
    (h : DataW.Trod enc Try.prog W 0 (fun _ => true) true 27 (.map mv) d p) :
    ∃ f ks, MapFact W mv f ks := by
  obtain ⟨fuel, hf⟩ := h
  have K : Keyed Try.prog 9 := string_keyed Try.underlying9
  rcases open_map Try.underlying27 hf with ⟨hcs, _⟩ | ⟨bm, es, clock, m, rfl, hcs, hb, _, F, _⟩
  · simp [Value.cells] at hcs
    subst hcs
    refine ⟨fun _ => false, [], ?_, ?_, ?_, ?_, ?_⟩
    · intro w' _ s hs
      exact Maps.look_nil false K Try.underlying27 (zero4 w') (keyOf_string_mk Try.underlying9 hs)
    · intro w' _ ty
      exact Maps.len_nil Try.underlying27 ty
    · intro s h; cases h
    · exact Nat.zero_le _
    · intro b hb; cases hb
  · simp [Value.cells] at hcs
    subst hcs
    have hw : ∀ w', Kept W w' (some bm) → w'.heap[bm]? = some (.map es clock) := fun w' hk => by rw [hk bm rfl]; exact hb
    have hex : ∀ s : ByteArray, ∃ r : Bool, s.size ≤ maxLen → (∀ w', Kept W w' (some bm) → (Instr.lookup 27 (.map (some bm)) (.string s) false).run Try.prog w' = .ok (.bool r) w') ∧ (r = true → s ∈ es.toList.map fun x => keyBytes x.key) := by
      intro s
      by_cases hs : s.size ≤ maxLen
      · rcases fit_look (w := W) false K Try.underlying27 (zero4 W) hb F (keyOf_string_mk Try.underlying9 hs) with ⟨_, hno, _⟩ | ⟨e0, y, hmem, hkey, hrun, hR, _, _⟩
        · refine ⟨false, fun _ => ⟨fun w' hk => ?_, by intro h; cases h⟩⟩
          rcases fit_look (w := w') false K Try.underlying27 (zero4 w') (hw w' hk) F (keyOf_string_mk Try.underlying9 hs) with ⟨hrun', _, _⟩ | ⟨e0, y, hmem, hkey, _⟩
          · exact hrun'
          · exact absurd hkey (hno e0 hmem)
        · obtain ⟨b0, hv0, hy0⟩ := elemAt_bool Try.underlying4 hR
          rename_i hat0 _
          refine ⟨b0, fun _ => ⟨fun w' hk => ?_, fun _ => List.mem_map.mpr ⟨e0, hmem, by rw [hkey]; rfl⟩⟩⟩
          rcases fit_look (w := w') false K Try.underlying27 (zero4 w') (hw w' hk) F (keyOf_string_mk Try.underlying9 hs) with ⟨_, hno, _⟩ | ⟨e1, y1, _, _, hrun1, hR1, hat1, _⟩
          · exact absurd hkey (hno e0 hmem)
          · obtain ⟨b1, hv1, hy1⟩ := elemAt_bool Try.underlying4 hR1
            have e : y.1 = y1.1 := (hat0 .nil).symm.trans (hat1 .nil)
            rw [hy0, hy1] at e
            simp at e
            subst e
            rw [hrun1, hv1]; rfl
      · exact ⟨false, fun h => absurd h hs⟩
    refine ⟨fun s => decide (s.size ≤ maxLen) && (hex s).choose, es.toList.map fun x => keyBytes x.key, ?_, ?_, ?_, ?_, ?_⟩
    · intro w' hk s hs
      rw [((hex s).choose_spec hs).1 w' hk, decide_eq_true hs, Bool.true_and]
    · intro w' hk ty
      have := (World.ownsMap_of_fit (R := elemAt enc Try.prog W 0 (fun _ => true) true m 4) (hw w' hk) F (fun _ _ _ hz => hz)).len Try.underlying27 ty
      rw [this]
      simp [Maps.size_eq, length_read]
    · intro s hs
      rw [Bool.and_eq_true, decide_eq_true_eq] at hs
      exact ((hex s).choose_spec hs.1).2 hs.2
    · have := F.size
      simpa using this
    · intro b hb'
      cases hb'
      rcases Nat.lt_or_ge bm W.heap.size with h | h
      · exact h
      · rw [Array.getElem?_eq_none h] at hb; cases hb

end Go.Proofs.Qxb6609141a
