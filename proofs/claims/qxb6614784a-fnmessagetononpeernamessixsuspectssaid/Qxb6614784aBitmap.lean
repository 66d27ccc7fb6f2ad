/-
  The walk of 'bitmap'.
-/
import Derived.Test.Qxb6614784aIter
namespace Go.Proofs.Qxb6614784a
open Go.RowKit Go.Shelf
attribute [local go_sem] Oper.semAt_some

set_option maxRecDepth 100000 in
set_option maxHeartbeats 2000000 in
theorem bitmap_in (s : ByteArray) (L : List Nat) (w : World) (he : IsEnc s L) (hl : s.size ≤ 200000) :
    CallsIn Fence.wide 3 Try.prog 18 #[.agg #[.string s]] w fun e W' => (∃ v : Int, e = .returned (.tuple #[.int .u64 v, .bool (decide (∀ x ∈ L, x < 64))])) ∧ Below w.heap.size w W' := by
  have HE := hideIt he
  clear he
  refine callsIn_of_wp_marks Try.func18 rfl trivial ?_ rfl
  simp only [Try.ntmps18, List.size_toArray, List.length_cons, List.length_nil, Nat.reduceAdd, Nat.reduceSub, Array.replicate_succ, Array.replicate_zero, List.push_toArray, List.append_toArray, List.nil_append, List.cons_append]
  gi_wp2_with fail
  refine ⟨trivial, (callsIn_wide.2 (all_any s _)).mono ?_⟩
  rintro e w' ⟨rfl, rfl⟩
  gi_wp2
  obtain ⟨W0, hW0⟩ : ∃ W0, (((((w.alloc (.cells #[.string s] 24)).alloc (.cells #[.int .u64 0] 22)).alloc (.cells #[.bool false] 4)).alloc (.cells #[.int .u64 0] 22)).alloc (.cells #[.string s] 24)) = W0 := ⟨_, rfl⟩
  have hB0 : Below w.heap.size w W0 := by
    rw [← hW0]
    exact (((((Below.refl _ w).alloc (Nat.le_refl _) _).alloc (by simp) _).alloc (by simp; omega) _).alloc (by simp; omega) _).alloc (by simp; omega) _
  have C1 : W0.cell? ⟨w.heap.size + 1, 0, none⟩ = some (.int .u64 0) := by subst hW0; go_simp
  have F1 : W0.frozen? ⟨w.heap.size + 1, 0, none⟩ = false := by subst hW0; go_simp
  have C2 : W0.cell? ⟨w.heap.size + 1 + 1, 0, none⟩ = some (.bool false) := by subst hW0; go_simp
  have F2 : W0.frozen? ⟨w.heap.size + 1 + 1, 0, none⟩ = false := by subst hW0; go_simp
  have C3 : W0.cell? ⟨w.heap.size + 1 + 1 + 1, 0, none⟩ = some (.int .u64 0) := by subst hW0; go_simp
  have F3 : W0.frozen? ⟨w.heap.size + 1 + 1 + 1, 0, none⟩ = false := by subst hW0; go_simp
  have C4 : BoxS W0 (w.heap.size + 1 + 1 + 1 + 1) s := by subst hW0; unfold BoxS; go_simp
  have hz : W0.heap.size = w.heap.size + 5 := by rw [← hW0]; simp
  rw [hW0]
  clear hW0
  have HZ := hideIt hz
  clear hz
  refine wpIn_rangeFunc_ownF rfl (by decide) (gf := 24) (lb := #[.pointer (some ⟨w.heap.size + 1 + 1 + 1 + 1, 0, none⟩)]) rfl trivial (enters_of Try.func24 (by kernel_rfl) rfl)
    (all_stops _ (by decide) (w.heap.size + 1 + 1 + 1 + 1) s L HE.out hl W0 C4) keptB_t (keptB_b (by rw [HZ.out]; omega)) (Below.refl _ _) (fun _ => rfl)
    (fun pre W => ((∀ y ∈ pre, y < 64) ∧ (∃ v : Int, W.cell? ⟨w.heap.size + 1 + 1 + 1, 0, none⟩ = some (.int .u64 v)) ∧ W.frozen? ⟨w.heap.size + 1 + 1 + 1, 0, none⟩ = false ∧
      W.cell? ⟨w.heap.size + 1, 0, none⟩ = some (.int .u64 0) ∧ W.frozen? ⟨w.heap.size + 1, 0, none⟩ = false ∧ W.cell? ⟨w.heap.size + 1 + 1, 0, none⟩ = some (.bool false) ∧ W.frozen? ⟨w.heap.size + 1 + 1, 0, none⟩ = false) ∧ Below w.heap.size w W)
    (fun c pre W => (c = .ret ∧ (∃ y ∈ pre, 64 ≤ y) ∧ W.cell? ⟨w.heap.size + 1, 0, none⟩ = some (.int .u64 0) ∧ W.cell? ⟨w.heap.size + 1 + 1, 0, none⟩ = some (.bool false)) ∧ Below w.heap.size w W)
    (OwnFrom.and (Own.from (fun s A B row hs hg hr => ⟨hs.1, hs.2.1.elim fun v hv => ⟨v, cell_kept hv hg hr⟩, hs.2.1.elim fun v hv => (frozen_kept hv hg hr).trans hs.2.2.1, cell_kept hs.2.2.2.1 hg hr, (frozen_kept hs.2.2.2.1 hg hr).trans hs.2.2.2.2.1, cell_kept hs.2.2.2.2.2.1 hg hr, (frozen_kept hs.2.2.2.2.2.1 hg hr).trans hs.2.2.2.2.2.2⟩) _) (ownFrom_below (Nat.le_refl _) (by rw [HZ.out]; omega)))
    (fun c => OwnFrom.and (Own.from (fun s A B row hs hg hr => ⟨hs.1, hs.2.1, cell_kept hs.2.2.1 hg hr, cell_kept hs.2.2.2 hg hr⟩) _) (ownFrom_below (Nat.le_refl _) (by rw [HZ.out]; omega)))
    ⟨⟨by simp, ⟨0, C3⟩, F3, C1, F1, C2, F2⟩, hB0⟩
    (fun x => { tmps := #[.agg #[.string s], .pointer (some ⟨w.heap.size, 0, none⟩), .pointer (some ⟨w.heap.size + 1, 0, none⟩), .pointer (some ⟨w.heap.size + 1 + 1, 0, none⟩), .pointer (some ⟨w.heap.size + 1 + 1 + 1, 0, none⟩), .int .i64 (x : Int), .agg #[.string s], .func (.func 24) #[] #[.pointer (some ⟨w.heap.size + 1 + 1 + 1 + 1, 0, none⟩)], .int .i64 (x : Int), undef, undef, undef, undef, undef, undef, undef], defers := [] }) ?assign ?body ?done ?stop
  case assign =>
    intro l x W K hK
    gi_wp2
    exact hK
  case body =>
    rintro l pre x W ⟨⟨hp, ⟨v, hv⟩, hfv, h1, f1, h2, f2⟩, hB⟩ _
    by_cases hx : 64 ≤ x
    · gi_wp2
      refine ⟨(KeepsOthers.setCell _ _ _).trans (KeepsOthers.setCell _ _ _), ⟨rfl, ⟨x, by simp, hx⟩, ?_, ?_⟩, (hB.setCell (p := ⟨w.heap.size + 1, 0, none⟩) (by show w.heap.size ≤ w.heap.size + 1; omega) _).setCell (p := ⟨w.heap.size + 1 + 1, 0, none⟩) (by show w.heap.size ≤ w.heap.size + 1 + 1; omega) _⟩
      · rw [World.cell?_setCell_other _ _ _ _ (by simp)]; exact World.cell?_setCell_same _ _ _ h1
      · exact World.cell?_setCell_same _ _ _ (by rw [World.cell?_setCell_other _ _ _ _ (by simp)]; exact h2)
    · have hx2 : x < 64 := by omega
      have hmix : Try.prog.follows .mixedOrders = true := by kernel_rfl
      gi_wp2
      gi_region_with_o (fail)
      all_goals gi_wp2
      all_goals
        refine ⟨(KeepsOthers.setCell _ _ _).trans (KeepsOthers.drew _), ⟨Below.heap_setCell W ⟨w.heap.size + 1 + 1 + 1, 0, none⟩ _ (w.heap.size + 1 + 1 + 1 + 1) (by show w.heap.size + 1 + 1 + 1 + 1 ≠ w.heap.size + 1 + 1 + 1; omega), by simp [World.setCell]⟩, ⟨fun y hy => ?_, ⟨_, World.cell?_setCell_same _ _ _ hv⟩, ?_, ?_, ?_, ?_, ?_⟩, (hB.setCell (p := ⟨w.heap.size + 1 + 1 + 1, 0, none⟩) (by show w.heap.size ≤ w.heap.size + 1 + 1 + 1; omega) _).drew⟩
        · rcases List.mem_append.1 hy with h | h
          · exact hp y h
          · rw [List.mem_singleton.1 h]; exact hx2
        · exact (World.frozen?_setCell _ _ _ _).trans hfv
        · exact (World.cell?_setCell_other _ _ _ _ (by simp)).trans h1
        · exact (World.frozen?_setCell _ _ _ _).trans f1
        · exact (World.cell?_setCell_other _ _ _ _ (by simp)).trans h2
        · exact (World.frozen?_setCell _ _ _ _).trans f2
  case done =>
    rintro D ys W hD rfl ⟨⟨hp, ⟨v, hv⟩, hfv, h1, f1, h2, f2⟩, hB⟩ hK
    have hD2 : w.heap.size ≤ D := by rw [HZ.out] at hD; omega
    gi_wp2
    have hK' := ((KeepsOthers.setCell W ⟨w.heap.size + 1, 0, none⟩ (.int .u64 v)).trans (KeepsOthers.setCell _ ⟨w.heap.size + 1 + 1, 0, none⟩ (.bool true))).same D _ hK rfl
    have e1 : ((W.setCell ⟨w.heap.size + 1, 0, none⟩ (.int .u64 v)).setCell ⟨w.heap.size + 1 + 1, 0, none⟩ (.bool true)).cell? ⟨w.heap.size + 1, 0, none⟩ = some (.int .u64 v) := by
      rw [World.cell?_setCell_other _ _ _ _ (by simp)]; exact World.cell?_setCell_same _ _ _ h1
    have e2 : ((W.setCell ⟨w.heap.size + 1, 0, none⟩ (.int .u64 v)).setCell ⟨w.heap.size + 1 + 1, 0, none⟩ (.bool true)).cell? ⟨w.heap.size + 1 + 1, 0, none⟩ = some (.bool true) :=
      World.cell?_setCell_same _ _ _ ((World.cell?_setCell_other _ _ _ _ (by simp)).trans h2)
    have hc5 := cell_kept e1 (grownBy_putObj' _ D (.deferred none)) (fun r e => by cases e; exact ⟨_, hK', rfl⟩)
    have hc6 := cell_kept e2 (grownBy_putObj' _ D (.deferred none)) (fun r e => by cases e; exact ⟨_, hK', rfl⟩)
    have hB2 := (hB.setCell (p := ⟨w.heap.size + 1, 0, none⟩) (by show w.heap.size ≤ w.heap.size + 1; omega) (.int .u64 v)).setCell (p := ⟨w.heap.size + 1 + 1, 0, none⟩) (by show w.heap.size ≤ w.heap.size + 1 + 1; omega) (.bool true)
    refine ⟨by simp, .inl ⟨_, _, rfl, run_takeDeferred hK', ?_⟩⟩
    refine ⟨.tuple #[.int .u64 v, .bool true], ?_, ⟨v, by rw [decide_eq_true hp]⟩, hB2.trans (belowK_b (w := w) (Nat.le_refl _) _ D _ _ hD2 hK' rfl rfl)⟩
    simp [results, Try.f18, go_sem, hc5, hc6]
  case stop =>
    rintro D c pre W hD hpre ⟨⟨rfl, ⟨y, hy, hy64⟩, h1, h2⟩, hB⟩ hK
    have hD2 : w.heap.size ≤ D := by rw [HZ.out] at hD; omega
    gi_wp2
    have hc5 := cell_kept h1 (grownBy_putObj' _ D (.deferred none)) (fun r e => by cases e; exact ⟨_, hK, rfl⟩)
    have hc6 := cell_kept h2 (grownBy_putObj' _ D (.deferred none)) (fun r e => by cases e; exact ⟨_, hK, rfl⟩)
    have hno : ¬ ∀ x ∈ L, x < 64 := fun h => by have := h y (hpre.subset hy); omega
    refine ⟨by simp, .inl ⟨_, _, rfl, run_takeDeferred hK, ?_⟩⟩
    refine ⟨.tuple #[.int .u64 0, .bool false], ?_, ⟨0, by rw [decide_eq_false hno]⟩, hB.trans (belowK_b (w := w) (Nat.le_refl _) W D _ _ hD2 hK rfl rfl)⟩
    simp [results, Try.f18, go_sem, hc5, hc6]

theorem bitmap_any (s : ByteArray) (L : List Nat) (w : World) (he : IsEnc s L) (hl : s.size ≤ 200000) :
    Calls Try.prog 18 #[.agg #[.string s]] w fun e W' => (∃ v : Int, e = .returned (.tuple #[.int .u64 v, .bool (decide (∀ x ∈ L, x < 64))])) ∧ Below w.heap.size w W' :=
  callsIn_wide.1 (bitmap_in s L w he hl)

end Go.Proofs.Qxb6614784a
