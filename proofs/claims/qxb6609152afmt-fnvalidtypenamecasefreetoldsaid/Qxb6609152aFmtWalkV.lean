/-
  The walk of 'formatVersion' and its export, fmt's text told.
-/
import Derived.Test.Qxb6609152aFmtFacts
import Derived.WalkKit
import Derived.WalkSpells
import Derived.WalkLawsBesides
namespace Go.Proofs.Qxb6609152aFmt
open Go.RowKit Go.Extern.Stop Go.Stop Go.Extern
attribute [local go_sem] Tryf.call20 Tryf.guard Tryf.fmt0 Tryf.fmt0r Tryf.act22_120 Tryf.op22_120 Tryf.str22

set_option maxHeartbeats 400000 in
theorem format_all (F : Interp) (n : Int) (w : World) (hF : F.answers w.tape) :
    Calls Tryf.prog 17 #[.int .u64 n] w fun e w' => e = .returned (.string (FmtStop.textOf (F "fmt.Sprintf" (reading n) 0))) ∧ Below w.heap.size w w' := by
  have hF' := answers_open hF
  go_enter Tryf.func17, Tryf.ntmps17
  go_wp2
  apply rows_value Tryf.nextTurns
  case hr => go_simp; exact ⟨rfl, rfl⟩
  case h =>
    go_wp2
    go_ret
    exact ⟨rfl, ((Below.refl _ w).alloc (Nat.le_refl _) _).drew⟩

theorem version_told (F : Interp) (n : Int) (w : World) (hF : F.told.answers w.tape) (hw : (Lit.int .u64 n).wf = true) :
    Calls Tryf.prog 9 #[.int .u64 n] w fun e w' => e = .returned (.string (vBytes n)) ∧ Below w.heap.size w w' := by
  have ht := told_version F n hw
  go_enter Tryf.func9, Tryf.ntmps9
  clear ht
  go_wp2_with fail
  refine (format_all F.told n w hF).mono ?_
  rintro e w' ⟨he, hb⟩
  rw [told_version F n hw] at he
  subst he
  go_wp2
  go_ret
  exact ⟨rfl, hb⟩

end Go.Proofs.Qxb6609152aFmt
