/-
  The walk of 'NameSuspects' where every suspect is named.
-/
import Derived.Test.Qxb6614784aBitmap
import Derived.Test.Qxb6614784aSize
import Derived.Deep.OwnRows
namespace Go.Proofs.Qxb6614784a
open Go.RowKit

/-- A message's cells: From, Life, Round, Ack, AckLife, Suspects, Partial, ToAll, Unacked, Asked, AskedAll. -/
def msgF (f l r : Int) (s : ByteArray) (p : Bool) : Nat → Value
  | 0 => .int .u64 f
  | 1 => .int .u64 l
  | 2 => .int .u64 r
  | 3 => .int .u64 0
  | 4 => .int .u64 0
  | 5 => .string s
  | 6 => .bool p
  | 7 => .bool false
  | 8 => .string ⟨#[]⟩
  | 9 => .string ⟨#[]⟩
  | _ => .bool false

/-- Every suspect can be named. -/
def Room (f l r : Int) (L : List Nat) : Prop := (∀ x ∈ L, x < 64) ∨ listN L.length ≤ 46 - (headN 3 + headN 6 + headN f + headN l + headN r + 2)

set_option maxHeartbeats 1600000 in
theorem name_any (f l r : Int) (s0 s : ByteArray) (p0 : Bool) (L : List Nat) (rec : Int) (bm : Nat) (w : World) (he : IsEnc s L) (hl : s.size ≤ 200000) (hroom : Room f l r L) (hm : w.rowIs bm 30 11 (msgF f l r s0 p0)) :
    Calls Try.prog 12 #[.pointer (some ⟨bm, 0, none⟩), .agg #[.string s], .int .i64 rec] w fun e W' => e = .returned (.tuple #[]) ∧ W'.rowIs bm 30 11 (msgF f l r s false) ∧ w.grownBy W' (some bm) := by
  have hlt := hm.lt
  have c0 := hm.cell (i := 0) (by decide)
  have c1 := hm.cell (i := 1) (by decide)
  have c2 := hm.cell (i := 2) (by decide)
  have c3 := hm.cell (i := 3) (by decide)
  have c4 := hm.cell (i := 4) (by decide)
  have c5 := hm.cell (i := 5) (by decide)
  have c6 := hm.cell (i := 6) (by decide)
  have c7 := hm.cell (i := 7) (by decide)
  have c8 := hm.cell (i := 8) (by decide)
  have c9 := hm.cell (i := 9) (by decide)
  have c10 := hm.cell (i := 10) (by decide)
  have f5 := hm.frozen 5
  have f6 := hm.frozen 6
  simp only [msgF] at c0 c1 c2 c3 c4 c5 c6 c7 c8 c9 c10
  have HE := hideIt he
  have HM := hideIt hm
  have HR := hideIt hroom
  clear he hm hroom
  go_enter Try.func12, Try.ntmps12
  go_wp2_with fail
  obtain ⟨W1, hW1⟩ : ∃ W1, ((w.setCell ⟨bm, 5, none⟩ (.string s)).setCell ⟨bm, 6, none⟩ (.bool false)).alloc (.cells #[.string s] 24) = W1 := ⟨_, rfl⟩
  have hrow1 : Hid (W1.rowIs bm 30 11 (msgF f l r s false)) := by
    show W1.rowIs bm 30 11 (msgF f l r s false)
    rw [← hW1]
    refine (((HM.out.set 5 (.string s)).set 6 (.bool false)).alloc _).congr fun i hi => ?_
    match i, hi with
    | 0, _ => rfl
    | 1, _ => rfl
    | 2, _ => rfl
    | 3, _ => rfl
    | 4, _ => rfl
    | 5, _ => rfl
    | 6, _ => rfl
    | 7, _ => rfl
    | 8, _ => rfl
    | 9, _ => rfl
    | 10, _ => rfl
  have hz1 : W1.heap.size = w.heap.size + 1 := by rw [← hW1]; simp [World.setCell]
  have hg1 : Hid (w.grownBy W1 (some bm)) := by
    show w.grownBy W1 (some bm)
    rw [← hW1]
    refine ⟨rfl, rfl, rfl, by simp [World.setCell], fun k hk hne => ?_⟩
    rw [Below.heap_alloc _ _ _ (by simp [World.setCell]; omega), Below.heap_setCell _ _ _ _ (fun e => hne (by rw [e])), Below.heap_setCell _ _ _ _ (fun e => hne (by rw [e]))]
  have hbox : W1.cell? ⟨w.heap.size, 0, none⟩ = some (.string s) := by
    rw [← hW1, World.cell?_alloc_at _ _ _ _ (by simp [World.setCell])]; rfl
  rw [hW1]
  clear hW1 c0 c1 c2 c3 c4 c5 c6 c7 c8 c9 c10 f5 f6 HM
  have hl1 : w.heap.size < W1.heap.size := by omega
  have HZ := hideIt hz1
  clear hz1
  refine (size_any f l r s false W1).mono ?_
  rintro e w2 ⟨rfl, hb2⟩
  have hbox2 := (hb2.cell (p := ⟨w.heap.size, 0, none⟩) hl1).trans hbox
  have hl2 : w.heap.size < w2.heap.size := Nat.lt_of_lt_of_le hl1 hb2.size
  have a3 := headN_bd 3
  have a6 := headN_bd 6
  have af := headN_bd f
  have al := headN_bd l
  have ar := headN_bd r
  have HR2 : Hid ((∀ x ∈ L, x < 64) ∨ listN L.length ≤ 46 - (headN 3 + headN 6 + headN f + headN l + headN r + 2)) := HR.out
  clear HR
  obtain ⟨S, hS⟩ : ∃ S, headN 3 + headN 6 + headN f + headN l + headN r + 2 = S := ⟨_, rfl⟩
  have hS1 : 0 ≤ S := by omega
  have hS2 : S ≤ 50 := by omega
  rw [hS] at HR2 ⊢
  clear hS a3 a6 af al ar
  go_wp2_with fail
  refine (bitmap_any s L w2 HE.out hl).mono ?_
  rintro e w3 ⟨⟨v, rfl⟩, hb3⟩
  have hb13 := hb2.trans (hb3.mono hb2.size)
  have hbox3 := (hb3.cell (p := ⟨w.heap.size, 0, none⟩) hl2).trans hbox2
  have fin : ∀ w9, Below W1.heap.size W1 w9 → w9.rowIs bm 30 11 (msgF f l r s false) ∧ w.grownBy w9 (some bm) := fun w9 h9 =>
    ⟨hrow1.out.of_block (h9.block bm (by rw [HZ.out]; omega)), ⟨h9.os.trans hg1.out.os, h9.tape.trans hg1.out.tape, h9.output.trans hg1.out.output, Nat.le_trans hg1.out.size h9.size, fun k hk hne => (h9.block k (by rw [HZ.out]; omega)).trans (hg1.out.block k hk hne)⟩⟩
  have FIN := hideIt fin
  clear fin hb2 hb3 hbox hbox2 hrow1 hg1
  by_cases hall : ∀ x ∈ L, x < 64
  · have hd : decide (∀ x ∈ L, x < 64) = true := decide_eq_true hall
    rw [hd]
    clear hd hall
    go_wp2
    exact bodyPost_ret (results_none rfl _ _ _) rfl ⟨rfl, (FIN.out w3 hb13).1, (FIN.out w3 hb13).2⟩
  · have hd : decide (∀ x ∈ L, x < 64) = false := decide_eq_false hall
    have hle : listN L.length ≤ 46 - S := HR2.out.elim (fun h => absurd h hall) id
    rw [hd]
    clear hd hall
    have hll : L.length ≤ 100000 := by have := HE.out.1; omega
    go_wp2_with fail
    refine (len_any s L w3 HE.out hl).mono ?_
    rintro e w4 ⟨rfl, hb4⟩
    have hb14 := hb13.trans (hb4.mono hb13.size)
    go_wp2_with fail
    refine (listSize_any L.length w4 hll).mono ?_
    rintro e w5 ⟨rfl, rfl⟩
    have hd2 : decide (listN L.length ≤ 46 - S) = true := decide_eq_true hle
    clear hb4 hbox3
    go_wp2
    exact bodyPost_ret (results_none rfl _ _ _) rfl ⟨rfl, (FIN.out w5 hb14).1, (FIN.out w5 hb14).2⟩

end Go.Proofs.Qxb6614784a
