/-
  The walks of 'ZZnewDetector' and of 'Message' at an id that is no peer.
-/
import Derived.Test.Qxb6614784aName
import Derived.Maps.OwnSet
namespace Go.Proofs.Qxb6614784a
open Go.RowKit

/-- The cells of a Detector that 'Message' reads: self, life, round, suspects; no peers. -/
def Det (w : World) (b : Nat) (f l r : Int) (s : ByteArray) : Prop :=
  w.cell? ⟨b, 0, none⟩ = some (.int .u64 f) ∧ w.cell? ⟨b, 1, none⟩ = some (.int .u64 l) ∧ w.cell? ⟨b, 6, none⟩ = some (.int .u64 r) ∧ w.cell? ⟨b, 7, none⟩ = some (.string s) ∧ w.cell? ⟨b, 9, none⟩ = some (.map none)

set_option maxHeartbeats 800000 in
theorem new_any (f l r : Int) (s : ByteArray) (w : World) :
    Calls Try.prog 6 #[.int .u64 f, .int .u64 l, .int .u64 r, .agg #[.string s]] w fun e w' => ∃ b, e = .returned (.pointer (some ⟨b, 0, none⟩)) ∧ Det w' b f l r s ∧ Below w.heap.size w w' := by
  go_enter Try.func6, Try.ntmps6
  go_wp2
  go_ret
  exact ⟨_, rfl, ⟨by simp, by simp, by simp, by simp, by simp⟩, ((Below.refl _ _).alloc (Nat.le_refl _) _).alloc (by simp) _⟩

theorem zero45 (w : World) : (zeroValue 45).run Try.prog w = .ok (.pointer none) w := by kernel_rfl

theorem look_none (to : Int) (h : (Lit.int .u64 to).wf = true) (w : World) : (Instr.lookup 41 (.map none) (.int .u64 to) true).run Try.prog w = .ok (.tuple #[.pointer none, .bool false]) w :=
  Maps.look_nil true (Maps.int_keyed Try.underlying22) Try.underlying41 (zero45 w) (Maps.keyOf_int_mk Try.underlying22 h)

set_option maxHeartbeats 1600000 in
theorem message_any (f l r to : Int) (s : ByteArray) (L : List Nat) (b : Nat) (w : World) (he : IsEnc s L) (hl : s.size ≤ 200000) (hroom : Room f l r L) (hto : (Lit.int .u64 to).wf = true) (hd : Det w b f l r s) :
    Calls Try.prog 7 #[.pointer (some ⟨b, 0, none⟩), .int .u64 to] w fun e w' =>
      e = .returned (.agg #[.int .u64 f, .int .u64 l, .int .u64 r, .int .u64 0, .int .u64 0, .string s, .bool false, .bool false, .string ⟨#[]⟩, .string ⟨#[]⟩, .bool false]) ∧ Below w.heap.size w w' := by
  obtain ⟨d0, d1, d6, d7, d9⟩ := hd
  have hb : b < w.heap.size := World.block_lt_of_cell? w ⟨b, 0, none⟩ d0
  have hb1 : b < w.heap.size + 1 := by omega
  have hlook := look_none to hto
  have HE := hideIt he
  have HR := hideIt hroom
  clear he hroom hto
  go_enter Try.func7, Try.ntmps7
  go_wp2
  go_region
  go_wp2_with fail
  obtain ⟨W1, hW1⟩ : ∃ W1, ((w.alloc (.cells #[.int .u64 0, .int .u64 0, .int .u64 0, .int .u64 0, .int .u64 0, .string ⟨#[]⟩, .bool false, .bool false, .string ⟨#[]⟩, .string ⟨#[]⟩, .bool false] 30)).alloc (.cells #[.int .u64 f, .int .u64 l, .int .u64 r, .int .u64 0, .int .u64 0, .string ⟨#[]⟩, .bool false, .bool false, .string ⟨#[]⟩, .string ⟨#[]⟩, .bool false] 30)).drew = W1 := ⟨_, rfl⟩
  have hbel1 : Below w.heap.size w W1 := by
    rw [← hW1]; exact (((Below.refl _ w).alloc (Nat.le_refl _) _).alloc (by simp) _).drew
  have hz1 : W1.heap.size = w.heap.size + 2 := by rw [← hW1]; simp
  have hres1 : W1.rowIs w.heap.size 30 11 (msgF 0 0 0 ⟨#[]⟩ false) := by
    rw [← hW1]
    refine ((World.rowIs_alloc w #[.int .u64 0, .int .u64 0, .int .u64 0, .int .u64 0, .int .u64 0, .string ⟨#[]⟩, .bool false, .bool false, .string ⟨#[]⟩, .string ⟨#[]⟩, .bool false] 30 (msgF 0 0 0 ⟨#[]⟩ false) fun i hi => ?_).alloc _).drew
    match i, hi with
    | 0, _ => rfl
    | 1, _ => rfl
    | 2, _ => rfl
    | 3, _ => rfl
    | 4, _ => rfl
    | 5, _ => rfl
    | 6, _ => rfl
    | 7, _ => rfl
    | 8, _ => rfl
    | 9, _ => rfl
    | 10, _ => rfl
  have hrow1 : W1.rowIs (w.heap.size + 1) 30 11 (msgF f l r ⟨#[]⟩ false) := by
    rw [← hW1]
    have h := World.rowIs_alloc (w.alloc (.cells #[.int .u64 0, .int .u64 0, .int .u64 0, .int .u64 0, .int .u64 0, .string ⟨#[]⟩, .bool false, .bool false, .string ⟨#[]⟩, .string ⟨#[]⟩, .bool false] 30)) #[.int .u64 f, .int .u64 l, .int .u64 r, .int .u64 0, .int .u64 0, .string ⟨#[]⟩, .bool false, .bool false, .string ⟨#[]⟩, .string ⟨#[]⟩, .bool false] 30 (msgF f l r ⟨#[]⟩ false) (fun i hi => by
      match i, hi with
      | 0, _ => rfl
      | 1, _ => rfl
      | 2, _ => rfl
      | 3, _ => rfl
      | 4, _ => rfl
      | 5, _ => rfl
      | 6, _ => rfl
      | 7, _ => rfl
      | 8, _ => rfl
      | 9, _ => rfl
      | 10, _ => rfl)
    rw [World.size_alloc] at h
    exact h.drew
  rw [hW1]
  clear hW1 hlook d0 d1 d6 d7 d9
  refine (name_any f l r ⟨#[]⟩ s false L (-1) (w.heap.size + 1) W1 HE.out hl HR.out hrow1).mono ?_
  rintro e W2 ⟨rfl, hrow2, hg2⟩
  have hres2 : W2.rowIs w.heap.size 30 11 (msgF 0 0 0 ⟨#[]⟩ false) := hres1.of_block (hg2.block w.heap.size (by omega) (by simp))
  have hbel2 : Below w.heap.size w W2 := hbel1.grown hg2 (by omega) (fun k e => by cases e; omega)
  clear hres1 hrow1 hbel1 hz1 hg2
  have c0 := hrow2.cell (i := 0) (by decide)
  have q0 := hres2.cell (i := 0) (by decide)
  have g0 := hres2.frozen 0
  have c1 := hrow2.cell (i := 1) (by decide)
  have q1 := hres2.cell (i := 1) (by decide)
  have g1 := hres2.frozen 1
  have c2 := hrow2.cell (i := 2) (by decide)
  have q2 := hres2.cell (i := 2) (by decide)
  have g2 := hres2.frozen 2
  have c3 := hrow2.cell (i := 3) (by decide)
  have q3 := hres2.cell (i := 3) (by decide)
  have g3 := hres2.frozen 3
  have c4 := hrow2.cell (i := 4) (by decide)
  have q4 := hres2.cell (i := 4) (by decide)
  have g4 := hres2.frozen 4
  have c5 := hrow2.cell (i := 5) (by decide)
  have q5 := hres2.cell (i := 5) (by decide)
  have g5 := hres2.frozen 5
  have c6 := hrow2.cell (i := 6) (by decide)
  have q6 := hres2.cell (i := 6) (by decide)
  have g6 := hres2.frozen 6
  have c7 := hrow2.cell (i := 7) (by decide)
  have q7 := hres2.cell (i := 7) (by decide)
  have g7 := hres2.frozen 7
  have c8 := hrow2.cell (i := 8) (by decide)
  have q8 := hres2.cell (i := 8) (by decide)
  have g8 := hres2.frozen 8
  have c9 := hrow2.cell (i := 9) (by decide)
  have q9 := hres2.cell (i := 9) (by decide)
  have g9 := hres2.frozen 9
  have c10 := hrow2.cell (i := 10) (by decide)
  have q10 := hres2.cell (i := 10) (by decide)
  have g10 := hres2.frozen 10
  simp only [msgF] at c0 c1 c2 c3 c4 c5 c6 c7 c8 c9 c10 q0 q1 q2 q3 q4 q5 q6 q7 q8 q9 q10
  have HRES := hideIt hres2
  clear hrow2 hres2
  go_wp2
  obtain ⟨W3, hW3⟩ : ∃ W3, (((((((((((W2.setCell ⟨w.heap.size, 0, none⟩ (.int .u64 f)).setCell ⟨w.heap.size, 1, none⟩ (.int .u64 l)).setCell ⟨w.heap.size, 2, none⟩ (.int .u64 r)).setCell ⟨w.heap.size, 3, none⟩ (.int .u64 0)).setCell ⟨w.heap.size, 4, none⟩ (.int .u64 0)).setCell ⟨w.heap.size, 5, none⟩ (.string s)).setCell ⟨w.heap.size, 6, none⟩ (.bool false)).setCell ⟨w.heap.size, 7, none⟩ (.bool false)).setCell ⟨w.heap.size, 8, none⟩ (.string ⟨#[]⟩)).setCell ⟨w.heap.size, 9, none⟩ (.string ⟨#[]⟩)).setCell ⟨w.heap.size, 10, none⟩ (.bool false)) = W3 := ⟨_, rfl⟩
  have hrow3 : W3.rowIs w.heap.size 30 11 (msgF f l r s false) := by
    rw [← hW3]
    refine (((((((((((HRES.out.set 0 (.int .u64 f)).set 1 (.int .u64 l)).set 2 (.int .u64 r)).set 3 (.int .u64 0)).set 4 (.int .u64 0)).set 5 (.string s)).set 6 (.bool false)).set 7 (.bool false)).set 8 (.string ⟨#[]⟩)).set 9 (.string ⟨#[]⟩)).set 10 (.bool false)).congr fun i hi => ?_
    match i, hi with
    | 0, _ => rfl
    | 1, _ => rfl
    | 2, _ => rfl
    | 3, _ => rfl
    | 4, _ => rfl
    | 5, _ => rfl
    | 6, _ => rfl
    | 7, _ => rfl
    | 8, _ => rfl
    | 9, _ => rfl
    | 10, _ => rfl
  have hbel3 : Below w.heap.size w W3 := by
    rw [← hW3]
    exact (((((((((((hbel2.setCell (p := ⟨w.heap.size, 0, none⟩) (Nat.le_refl _) (.int .u64 f)).setCell (p := ⟨w.heap.size, 1, none⟩) (Nat.le_refl _) (.int .u64 l)).setCell (p := ⟨w.heap.size, 2, none⟩) (Nat.le_refl _) (.int .u64 r)).setCell (p := ⟨w.heap.size, 3, none⟩) (Nat.le_refl _) (.int .u64 0)).setCell (p := ⟨w.heap.size, 4, none⟩) (Nat.le_refl _) (.int .u64 0)).setCell (p := ⟨w.heap.size, 5, none⟩) (Nat.le_refl _) (.string s)).setCell (p := ⟨w.heap.size, 6, none⟩) (Nat.le_refl _) (.bool false)).setCell (p := ⟨w.heap.size, 7, none⟩) (Nat.le_refl _) (.bool false)).setCell (p := ⟨w.heap.size, 8, none⟩) (Nat.le_refl _) (.string ⟨#[]⟩)).setCell (p := ⟨w.heap.size, 9, none⟩) (Nat.le_refl _) (.string ⟨#[]⟩)).setCell (p := ⟨w.heap.size, 10, none⟩) (Nat.le_refl _) (.bool false))
  rw [hW3]
  clear hW3 hbel2 HRES c0 c1 c2 c3 c4 c5 c6 c7 c8 c9 c10 q0 q1 q2 q3 q4 q5 q6 q7 q8 q9 q10 g0 g1 g2 g3 g4 g5 g6 g7 g8 g9 g10
  have z0 := hrow3.cell (i := 0) (by decide)
  have z1 := hrow3.cell (i := 1) (by decide)
  have z2 := hrow3.cell (i := 2) (by decide)
  have z3 := hrow3.cell (i := 3) (by decide)
  have z4 := hrow3.cell (i := 4) (by decide)
  have z5 := hrow3.cell (i := 5) (by decide)
  have z6 := hrow3.cell (i := 6) (by decide)
  have z7 := hrow3.cell (i := 7) (by decide)
  have z8 := hrow3.cell (i := 8) (by decide)
  have z9 := hrow3.cell (i := 9) (by decide)
  have z10 := hrow3.cell (i := 10) (by decide)
  simp only [msgF] at z0 z1 z2 z3 z4 z5 z6 z7 z8 z9 z10
  exact bodyPost_ret (v := .agg #[.int .u64 f, .int .u64 l, .int .u64 r, .int .u64 0, .int .u64 0, .string s, .bool false, .bool false, .string ⟨#[]⟩, .string ⟨#[]⟩, .bool false]) (by simp [results, Try.results7, go_sem, z0, z1, z2, z3, z4, z5, z6, z7, z8, z9, z10]) rfl ⟨rfl, hbel3⟩

end Go.Proofs.Qxb6614784a
