/-
  The walk of 'FnMessageToNonPeerNamesSixSuspects', the indices in range.
-/
import Derived.Test.Qxb6614784aMessage
import Derived.Test.Qxb6614784aWith
namespace Go.Proofs.Qxb6614784a
open Go.RowKit

/-- The k-th index stands among those ahead of it. -/
def dup (ix : Nat → Nat) (k j : Nat) : Bool := decide (∃ m, m < j ∧ ix m = ix k)

/-- How many different ones the first k are. -/
def cnt (ix : Nat → Nat) : Nat → Nat
  | 0 => 0
  | k + 1 => if dup ix k k = true then cnt ix k else cnt ix k + 1

theorem cnt_succ (ix : Nat → Nat) (k : Nat) : cnt ix (k + 1) = if dup ix k k = true then cnt ix k else cnt ix k + 1 := rfl

theorem dup_succ (ix : Nat → Nat) (k j : Nat) : dup ix k (j + 1) = (dup ix k j || decide (ix j = ix k)) := by
  unfold dup
  rw [← Bool.decide_or]
  apply decide_eq_decide.mpr
  constructor
  · rintro ⟨m, hm, h⟩
    by_cases e : m = j
    · subst e; exact .inr h
    · exact .inl ⟨m, by omega, h⟩
  · rintro (⟨m, hm, h⟩ | h)
    · exact ⟨m, by omega, h⟩
    · exact ⟨j, by omega, h⟩

theorem ins_step {ix : Nat → Nat} {k : Nat} {L L' : List Nat} (hm : ∀ y, y ∈ L ↔ ∃ m, m < k ∧ ix m = y) (hl : L.length = cnt ix k) (hi : Ins L (ix k) L') :
    L'.Pairwise (· < ·) ∧ (∀ y, y ∈ L' ↔ ∃ m, m < k + 1 ∧ ix m = y) ∧ L'.length = cnt ix (k + 1) := by
  obtain ⟨hp, hm', hl'⟩ := hi
  refine ⟨hp, fun y => ?_, ?_⟩
  · rw [hm', hm]
    constructor
    · rintro (rfl | ⟨m, h, h'⟩)
      · exact ⟨k, by omega, rfl⟩
      · exact ⟨m, by omega, h'⟩
    · rintro ⟨m, h, h'⟩
      by_cases e : m = k
      · subst e; exact .inl h'.symm
      · exact .inr ⟨m, by omega, h'⟩
  · rw [hl', cnt_succ, hl]
    by_cases h : ix k ∈ L
    · rw [if_pos h, if_pos (show dup ix k k = true from decide_eq_true ((hm _).mp h))]
    · rw [if_neg h, if_neg (show ¬ dup ix k k = true from fun h' => h ((hm _).mpr (of_decide_eq_true h')))]

theorem room_six {f l r : Int} {L : List Nat} (hf : f ≤ 65535) (hl : L.length ≤ 6) : Room f l r L := by
  right
  have h1 := headN_small f hf
  have h2 := headN_bd l
  have h3 := headN_bd r
  have h4 := listN_six L.length hl
  have h5 : headN 3 = 1 := by decide
  have h6 : headN 6 = 1 := by decide
  omega

theorem cnt_le (ix : Nat → Nat) : ∀ k, cnt ix k ≤ k
  | 0 => Nat.le_refl _
  | k + 1 => by
    have := cnt_le ix k
    unfold cnt
    split <;> omega

/-- The six, by their place. -/
def ix6 (a b c e f g : Nat) (k : Nat) : Nat :=
  if k = 0 then a else if k = 1 then b else if k = 2 then c else if k = 3 then e else if k = 4 then f else g

/-- The array's cells, at block B. -/
def Arr (w : World) (B : Nat) (ix : Nat → Nat) : Prop := ∀ k, k < 6 → w.cell? ⟨B, k, none⟩ = some (.int .i64 (ix k))

set_option maxRecDepth 20000 in
set_option maxHeartbeats 1600000 in
theorem six_in (self life round to : Int) (a b c e f g : Nat) (w : World) (h0 : self ≤ 65535) (h3 : (Lit.int .u64 to).wf = true)
    (ha : a ≤ 1023) (hb : b ≤ 1023) (hc : c ≤ 1023) (he : e ≤ 1023) (hf : f ≤ 1023) (hg : g ≤ 1023) :
    Calls Try.prog 4 #[.int .u64 self, .int .u64 life, .int .u64 round, .int .u64 to, .int .i64 a, .int .i64 b, .int .i64 c, .int .i64 e, .int .i64 f, .int .i64 g] w fun e w' => e = .returned (.bool true) ∧ Below w.heap.size w w' := by
  have H3 := hideIt h3
  clear h3
  have hix : Hid (∀ k, ix6 a b c e f g k ≤ 1023) := fun k => by unfold ix6; (repeat' split) <;> assumption
  have hA : Hid (∀ w' : World, Arr (w'.alloc (.cells #[.int .i64 a, .int .i64 b, .int .i64 c, .int .i64 e, .int .i64 f, .int .i64 g] 35)) w'.heap.size (ix6 a b c e f g)) := by
    intro w' k hk
    match k, hk with
    | 0, _ => simp [ix6]
    | 1, _ => simp [ix6]
    | 2, _ => simp [ix6]
    | 3, _ => simp [ix6]
    | 4, _ => simp [ix6]
    | 5, _ => simp [ix6]
  generalize ix6 a b c e f g = ix at hix hA
  go_enter Try.func4, Try.ntmps4
  go_wp2
  go_loopw [22, 23] (fun n i wr => ∃ k : Nat, k ≤ 6 ∧ n = .int .i64 (cnt ix k) ∧ i = .int .i64 k ∧ Hid (Arr wr w.heap.size ix) ∧ Below w.heap.size w wr)
    (fun _ i _ => 6 - (intOf i).toNat)
  case atStart => exact ⟨0, Nat.zero_le _, rfl, rfl, hA.out w, (Below.refl _ _).alloc (Nat.le_refl _) _⟩
  case round =>
    obtain ⟨k, hk, rfl, rfl, harr, hbel⟩ := hrel
    have hcnt := cnt_le ix k
    by_cases hlt : k < 6
    · go_wp2
      go_loopw [24, 25] (fun d j wr => ∃ m : Nat, m ≤ k ∧ d = .bool (dup ix k m) ∧ j = .int .i64 m ∧ Hid (Arr wr w.heap.size ix) ∧ Below w.heap.size w wr)
        (fun _ j _ => 6 - (intOf j).toNat)
      case atStart => exact ⟨0, Nat.zero_le _, by simp [dup], rfl, harr, hbel⟩
      case round =>
        obtain ⟨m, hm, rfl, rfl, harr, hbel⟩ := hrel
        by_cases hmlt : m < k
        · have hck := harr.out k hlt
          have hcm := harr.out m (by omega)
          go_wp2
          go_region
          have harr' : Hid (Arr wr.drew w.heap.size ix) := fun j hj => harr.out j hj
          have hbel' := hbel.drew
          clear hck hcm harr hbel
          have hd := hideIt (dup_succ ix k m)
          go_wp2_with fail
          · have he : ix m = ix k := by
              have h : ((ix m : Int) == (ix k : Int)) = true := by assumption
              have := eq_of_beq h
              omega
            go_roundw
            case rel => exact ⟨m + 1, by omega, by rw [hd.out, decide_eq_true he, Bool.or_true], by go_num, harr', hbel'⟩
            case measure => simp [intOf]; omega
          · have he : ¬ ix m = ix k := by
              have h : ((ix m : Int) == (ix k : Int)) = false := by assumption
              intro h'
              rw [h', beq_self_eq_true] at h
              cases h
            go_roundw
            case rel => exact ⟨m + 1, by omega, by rw [hd.out, decide_eq_false he, Bool.or_false], by go_num, harr', hbel'⟩
            case measure => simp [intOf]; omega
        · have hmk : m = k := by omega
          subst hmk
          have hs := hideIt (cnt_succ ix m)
          go_wp2_with fail
          · have hd : dup ix m m = false := by
              have h : (!dup ix m m) = true := by assumption
              simpa using h
            go_roundw
            case rel => exact ⟨m + 1, by omega, by rw [hs.out, hd]; simp only [Bool.false_eq_true, if_false]; go_num, by go_num, harr, hbel⟩
            case measure => simp [intOf]; omega
          · have hd : dup ix m m = true := by
              have h : (!dup ix m m) = false := by assumption
              simpa using h
            go_roundw
            case rel => exact ⟨m + 1, by omega, by rw [hs.out, hd, if_pos rfl], by go_num, harr, hbel⟩
            case measure => simp [intOf]; omega
    · have hke : k = 6 := by omega
      have hcn : Hid (cnt ix k = cnt ix 6) := by rw [hke]; exact (rfl : cnt ix 6 = cnt ix 6)
      generalize cnt ix k = n6 at hcn hcnt ⊢
      have hB0 : w.heap.size < wr.heap.size := World.block_lt_of_cell? wr ⟨w.heap.size, 0, none⟩ (harr.out 0 (by omega))
      go_wp2_with fail
      generalize hB1 : wr.heap.size = B1 at hB0 ⊢
      go_loopw [27] (fun i wt => ∃ (k : Nat) (s : ByteArray) (L : List Nat), k ≤ 6 ∧ i = .int .i64 k ∧ Hid (IsEnc s L) ∧ Hid (L.Pairwise (· < ·)) ∧ Hid (∀ y, y ∈ L ↔ ∃ m, m < k ∧ ix m = y) ∧ Hid (L.length = cnt ix k) ∧ wt.cell? ⟨B1, 0, none⟩ = some (.string s) ∧ wt.frozen? ⟨B1, 0, none⟩ = false ∧ Hid (Arr wt w.heap.size ix) ∧ Below w.heap.size w wt)
        (fun i _ => 6 - (intOf i).toNat)
      case atStart => subst hB1; exact ⟨0, ⟨#[]⟩, [], Nat.zero_le _, rfl, ⟨rfl, fun k h => by simp at h⟩, List.Pairwise.nil, fun y => ⟨fun h => by simp at h, fun ⟨m, h, _⟩ => by omega⟩, rfl, by simp, by simp, fun j hj => (((Below.refl wr.heap.size wr).alloc (Nat.le_refl _) _).cell (p := ⟨w.heap.size, j, none⟩) hB0).trans (harr.out j hj), hbel.alloc hbel.size _⟩
      case round =>
        obtain ⟨k, s, L, hk, rfl, HE, HA, HM, HL, hcs, hfs, harr3, hbel3⟩ := hrel
        clear harr hbel hcnt hlt hB1 hke
        have hB : B1 < wr.heap.size := World.block_lt_of_cell? wr ⟨B1, 0, none⟩ hcs
        by_cases hlt : k < 6
        · have hck := harr3.out k hlt
          have hss : s.size ≤ 100000 := by have := HE.out.1; have := HL.out; have := cnt_le ix k; omega
          have hxk : ix k ≤ 65535 := by have := hix.out k; omega
          go_wp2_with fail
          go_region_with (go_at_call 5; refine (with_any s L (ix k) _ HE.out hss HA.out hxk).mono ?_; rintro e w1 ⟨t, L', rfl, he', hins, hb1⟩; have hc1 := (hb1.cell (p := ⟨B1, 0, none⟩) hB).trans hcs; have hf1 := (hb1.frozen (p := ⟨B1, 0, none⟩) hB).trans hfs; have HE' := hideIt he'; have HI' := hideIt hins; clear he' hins)
          all_goals
            obtain ⟨hp', hm', hl'⟩ := ins_step HM.out HL.out HI'.out
            have HA' := hideIt hp'
            have HM' := hideIt hm'
            have HL' := hideIt hl'
            clear hp' hm' hl' hcs hfs hck hss hxk
            have harr' : Hid (Arr (w1.setCell ⟨B1, 0, none⟩ (.string t)) w.heap.size ix) := fun j hj =>
              (World.cell?_setCell_other _ _ _ _ (by intro h; injection h with h; omega)).trans ((hb1.cell (p := ⟨w.heap.size, j, none⟩) (Nat.lt_trans hB0 hB)).trans (harr3.out j hj))
            have hbel' := (hbel3.drew.trans (hb1.mono hbel3.size)).setCell (p := ⟨B1, 0, none⟩) (Nat.le_of_lt hB0) (.string t)
            have hc' := World.cell?_setCell_same w1 ⟨B1, 0, none⟩ (.string t) hc1
            have hf' := (World.frozen?_setCell w1 ⟨B1, 0, none⟩ ⟨B1, 0, none⟩ (.string t)).trans hf1
            go_wp2_with fail
            go_roundw
            case rel => exact ⟨k + 1, t, L', by omega, by go_num, HE', HA', HM', HL', hc', hf', harr', hbel'⟩
            case measure => simp [intOf]; omega
        · have hke : k = 6 := by omega
          have hL6 : Hid (L.length = n6) := by show _ = _; rw [HL.out, hke]; exact hcn.out.symm
          have hlen : L.length ≤ 6 := by have := HL.out; have := cnt_le ix k; omega
          have hroom : Hid (Room self life round L) := room_six h0 hlen
          have hss : s.size ≤ 100000 := by have := HE.out.1; omega
          have HH : Hid (∀ j, j < 6 → decide (ix j ∈ L) = true) := fun j hj => decide_eq_true ((HM.out _).mpr ⟨j, by omega, rfl⟩)
          have hB00 : w.heap.size < wr.heap.size := Nat.lt_trans hB0 hB
          go_wp2_with fail
          refine (new_any self life round s wr).mono ?_
          rintro e w1 ⟨bd, rfl, hdet, hb1⟩
          have harr1 : Hid (Arr w1 w.heap.size ix) := fun j hj => (hb1.cell (p := ⟨w.heap.size, j, none⟩) hB00).trans (harr3.out j hj)
          have hb01 := hbel3.trans (hb1.mono hbel3.size)
          have hB01 := Nat.lt_of_lt_of_le hB00 hb1.size
          clear hcs hfs hbel3 harr3 hb1 hB hB0 HM HL hcn hke hk hlt
          go_wp2_with fail
          refine (message_any self life round to s L bd w1 HE.out (by omega) hroom.out H3.out hdet).mono ?_
          rintro e w2 ⟨rfl, hb2⟩
          have harr2 : Hid (Arr w2 w.heap.size ix) := fun j hj => (hb2.cell (p := ⟨w.heap.size, j, none⟩) hB01).trans (harr1.out j hj)
          have hb02 := hb01.trans (hb2.mono hb01.size)
          have hB02 := Nat.lt_of_lt_of_le hB01 hb2.size
          clear hdet hb2 hb01 harr1 hroom
          go_wp2_with fail
          refine (len_any s L _ HE.out (by omega)).mono ?_
          rintro e w3 ⟨rfl, hb3⟩
          rw [hL6.out]
          have hc3 : w3.cell? ⟨w2.heap.size, 5, none⟩ = some (.string s) := (hb3.cell (p := ⟨w2.heap.size, 5, none⟩) (by simp)).trans (by simp)
          have hb03 : Below w.heap.size w w3 := (hb02.alloc hb02.size _).trans (hb3.mono ((hb02.alloc hb02.size _).size))
          have harr3 : Hid (Arr w3 w.heap.size ix) := fun j hj => (hb3.cell (p := ⟨w.heap.size, j, none⟩) (by simp; omega)).trans ((((Below.refl w2.heap.size w2).alloc (Nat.le_refl _) _).cell (p := ⟨w.heap.size, j, none⟩) hB02).trans (harr2.out j hj))
          generalize hB : w2.heap.size = B at hc3 hb3 ⊢
          clear hb3 hb02 hB harr2 hB02 hB01 hB00 hL6
          go_wp2_with fail
          go_loopw [30] (fun i wt => ∃ j : Nat, j ≤ 6 ∧ i = .int .i64 j ∧ wt.cell? ⟨B, 5, none⟩ = some (.string s) ∧ Hid (Arr wt w.heap.size ix) ∧ Below w.heap.size w wt)
            (fun i _ => 6 - (intOf i).toNat)
          case atStart => exact ⟨0, Nat.zero_le _, rfl, hc3, harr3, hb03⟩
          case round =>
            obtain ⟨j, hj, rfl, hc, harr, hbel⟩ := hrel
            clear hc3 harr3 hb03
            by_cases hlt : j < 6
            · have hH := hideIt (HH.out j hlt)
              have hcj := harr.out j hlt
              have hB : B < wr.heap.size := World.block_lt_of_cell? _ _ hc
              have hBw : w.heap.size < wr.heap.size := World.block_lt_of_cell? _ _ hcj
              go_wp2_with fail
              go_region_with (go_at_call 9; refine (has_any s L (ix j) _ HE.out (Nat.le_trans hss (by decide)) HA.out).mono ?_; rintro e w4 ⟨rfl, hb4⟩; rw [hH.out]; have hc4 := (hb4.cell (p := ⟨B, 5, none⟩) hB).trans hc; have hb04 := hbel.drew.trans (hb4.mono hbel.size))
              all_goals
                have harr4 : Hid (Arr w4 w.heap.size ix) := fun m hm => (hb4.cell (p := ⟨w.heap.size, m, none⟩) hBw).trans (harr.out m hm)
                clear hb4 hc hbel hB hBw hH hcj harr
                go_wp2_with fail
                go_roundw
                case rel => exact ⟨j + 1, by omega, by go_num, hc4, harr4, hb04⟩
                case measure => simp [intOf]; omega
            · go_wp2_with fail
              go_ret
              exact ⟨rfl, hbel⟩

end Go.Proofs.Qxb6614784a
