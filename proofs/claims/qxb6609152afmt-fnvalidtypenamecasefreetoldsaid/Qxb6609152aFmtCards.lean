/-
  DERIVED. GIVEN WITH THE SEED: THE CARDS: each row of Qxb6609152aFmtRows.lean that lists a variable, with what it lists TIED to the program's text (the seventh form; the later family's looks); each row that meets fmt, with fmt's text TOLD by the authors' own Lean function (tested against real Go, not proved from fmt's source: count such statements apart). THE CARD IS WHAT COUNTS. Prove the row's statement (the work); the ties are given (Qxb6609152aFmtTie.lean); close each card by the builder's one call (the guide's Derived/Test/ToyasCard.lean, 'card_holds'). Laid BY PROGRAM, IN A SANDBOX (cutbox-door.mjs). By AI agents, Wed Nov 11 2026. No macro, syntax, notation, axiom, sorry.
-/
import Derived.Test.Qxb6609152aFmtRows
import GoSem.ClaimSeven
namespace Go.Proofs.Qxb6609152aFmt
namespace Rows

/-- THE TOLD CARD OF 'zzlaws_pkg_mockfeed_b1.FnValidTypeNameCut'. -/
def fnValidTypeNameCutCard : Claim7 := { stood := { row := fnValidTypeNameCutRow, standIns := [], harness := (true, "a7697e18e8a54897b9d184578a9c90be5af62c001c5c57c3cdd82c8992f1d0ec"), looks := true }, told := true, goes := false }
def FnValidTypeNameCutToldSaid : Prop := Claim7.holds Tryf.pinned (.plain (OpenSpec.ofChange fnValidTypeNameCutSpec)) fnValidTypeNameCutCard
/-- ITS FALSE NEIGHBOUR. Refute it at one input. -/
def FnValidTypeNameCutToldWrongFalsely : Prop := Claim7.holds Tryf.pinned (.plain (OpenSpec.ofChange fnValidTypeNameCutWrong)) fnValidTypeNameCutCard

/-- THE TOLD CARD OF 'zzlaws_pkg_mockfeed_b1.FnValidTypeNameCaseFree'. -/
def fnValidTypeNameCaseFreeCard : Claim7 := { stood := { row := fnValidTypeNameCaseFreeRow, standIns := [], harness := (true, "a7697e18e8a54897b9d184578a9c90be5af62c001c5c57c3cdd82c8992f1d0ec"), looks := true }, told := true, goes := false }
def FnValidTypeNameCaseFreeToldSaid : Prop := Claim7.holds Tryf.pinned (.plain (OpenSpec.ofChange fnValidTypeNameCaseFreeSpec)) fnValidTypeNameCaseFreeCard
/-- ITS FALSE NEIGHBOUR. Refute it at one input. -/
def FnValidTypeNameCaseFreeToldWrongFalsely : Prop := Claim7.holds Tryf.pinned (.plain (OpenSpec.ofChange fnValidTypeNameCaseFreeWrong)) fnValidTypeNameCaseFreeCard

/-- THE TOLD CARD OF 'zzlaws_pkg_mockfeed_b1.FnFormatVersionHexRoundTrip'. -/
def fnFormatVersionHexRoundTripCard : Claim7 := { stood := { row := fnFormatVersionHexRoundTripRow, standIns := [], harness := (true, "a7697e18e8a54897b9d184578a9c90be5af62c001c5c57c3cdd82c8992f1d0ec"), looks := true }, told := true, goes := false }
def FnFormatVersionHexRoundTripToldSaid : Prop := Claim7.holds Tryf.pinned (.plain (OpenSpec.ofChange fnFormatVersionHexRoundTripSpec)) fnFormatVersionHexRoundTripCard
/-- ITS FALSE NEIGHBOUR. Refute it at one input. -/
def FnFormatVersionHexRoundTripToldWrongFalsely : Prop := Claim7.holds Tryf.pinned (.plain (OpenSpec.ofChange fnFormatVersionHexRoundTripWrong)) fnFormatVersionHexRoundTripCard

/-- THE TOLD CARD OF 'zzlaws_pkg_mockfeed_b1.FnFormatVersionSortsLikeNumbers'. -/
def fnFormatVersionSortsLikeNumbersCard : Claim7 := { stood := { row := fnFormatVersionSortsLikeNumbersRow, standIns := [], harness := (true, "a7697e18e8a54897b9d184578a9c90be5af62c001c5c57c3cdd82c8992f1d0ec"), looks := true }, told := true, goes := false }
def FnFormatVersionSortsLikeNumbersToldSaid : Prop := Claim7.holds Tryf.pinned (.plain (OpenSpec.ofChange fnFormatVersionSortsLikeNumbersSpec)) fnFormatVersionSortsLikeNumbersCard
/-- ITS FALSE NEIGHBOUR. Refute it at one input. -/
def FnFormatVersionSortsLikeNumbersToldWrongFalsely : Prop := Claim7.holds Tryf.pinned (.plain (OpenSpec.ofChange fnFormatVersionSortsLikeNumbersWrong)) fnFormatVersionSortsLikeNumbersCard

/-- THE TOLD CARD OF 'zzlaws_pkg_mockfeed_b1.FnExceptionKeepsNameAndPlainMessage'. -/
def fnExceptionKeepsNameAndPlainMessageCard : Claim7 := { stood := { row := fnExceptionKeepsNameAndPlainMessageRow, standIns := [], harness := (true, "a7697e18e8a54897b9d184578a9c90be5af62c001c5c57c3cdd82c8992f1d0ec"), looks := true }, told := true, goes := false }
def FnExceptionKeepsNameAndPlainMessageToldSaid : Prop := Claim7.holds Tryf.pinned (.plain (OpenSpec.ofChange fnExceptionKeepsNameAndPlainMessageSpec)) fnExceptionKeepsNameAndPlainMessageCard
/-- ITS FALSE NEIGHBOUR. Refute it at one input. -/
def FnExceptionKeepsNameAndPlainMessageToldWrongFalsely : Prop := Claim7.holds Tryf.pinned (.plain (OpenSpec.ofChange fnExceptionKeepsNameAndPlainMessageWrong)) fnExceptionKeepsNameAndPlainMessageCard
end Rows
end Go.Proofs.Qxb6609152aFmt
