/-
  No cell of these rows narrows 'for every input' (looked for: loops, veiled, ifaces, maps, wideKeys, modest, calm, conditions, laid).
  DERIVED. THE GIVEN ROWS OF THIS SEAT. 5 by the template 'for every input the law returns true; each argument reads behind the call as it read before'; 0 by the template 'total and deterministic' (their statements: Qxb6609152aFmtTotals.lean).
  GIVEN WITH THE SEED: the statements are not yours to turn. If you find one false, say at which input.
  Laid BY PROGRAM, IN A SANDBOX (cutbox-rows.mjs): the forced cells as the released guide's own fill.sh prints them over the translation 07fd7f78610baf81… (all of the seat's roots in one cut). By AI agents, Wed Nov 11 2026. No macro, syntax, notation, axiom, sorry.
-/
import Derived.Test.Qxb6609152aFmtChecked
import GoSem.Claim
import GoSem.ClaimJoined
import GoSem.ClaimMapViews
import Derived.JoinedTies
import Derived.KernelRfl
namespace Go.Proofs.Qxb6609152aFmt
/- THE CELL 'sum', in the pinned program and in every row, IS THE sha256 OF THE DUMP (.gsa) THAT Qxb6609152aFmtProg.lean LOADS. Nothing in Lean hashes anything: it is a label: what it is worth is what the hold of that sum in a sandbox is worth. -/
noncomputable def Tryf.pinned : Pinned := { name := "qxb6609152afmt", sum := "07fd7f78610baf81de4fd8992d79d37628daac9c0dcf7bbb9a8376d087b79548", checked := Tryf.checked }
namespace Rows
def none {H : Type} : Left H := { results := [], args := [] }

/-- 'zzlaws_pkg_mockfeed_b1.FnValidTypeNameCut': WHATEVER THE INPUT: true; the input reads as it did. -/
def fnValidTypeNameCutSpec : ChangeSpec := { name := "fnValidTypeNameCut", fn := fun _ => fun
  | [d1, d2, d3] => { results := [.lit (.bool true)], args := [d1, d2, d3] }
  | _ => none }
def fnValidTypeNameCutRow : OpenClaim := { program := "qxb6609152afmt", sum := "07fd7f78610baf81de4fd8992d79d37628daac9c0dcf7bbb9a8376d087b79548", func := "example.com/halyard/halyard/zzlaws_pkg_mockfeed_b1.FnValidTypeNameCut", spec := "fnValidTypeNameCut", stops := ["fmt.Sprintf, its operands' methods called"], inPlace := ["fmt.Sprintf"], unfollowed := true, recurses := true, apart := false }
/-- NO THEOREM (fmt's text is open here; it may be false): for the released tool's asking of the row's closed facts alone. THE STATEMENT IS 'FnValidTypeNameCutToldSaid' (Qxb6609152aFmtCards.lean). -/
def FnValidTypeNameCutFormAsk : Prop := fnValidTypeNameCutRow.holds Tryf.pinned (OpenSpec.ofChange fnValidTypeNameCutSpec)

/-- ITS FALSE NEIGHBOUR: 'it returns false'. Refute it at one input. -/
def fnValidTypeNameCutWrong : ChangeSpec := { name := "fnValidTypeNameCut", fn := fun _ => fun
  | [d1, d2, d3] => { results := [.lit (.bool false)], args := [d1, d2, d3] }
  | _ => none }
def FnValidTypeNameCutWrongFormAsk : Prop := fnValidTypeNameCutRow.holds Tryf.pinned (OpenSpec.ofChange fnValidTypeNameCutWrong)

/-- 'zzlaws_pkg_mockfeed_b1.FnValidTypeNameCaseFree': WHATEVER THE INPUT: true; the input reads as it did. -/
def fnValidTypeNameCaseFreeSpec : ChangeSpec := { name := "fnValidTypeNameCaseFree", fn := fun _ => fun
  | [d1, d2] => { results := [.lit (.bool true)], args := [d1, d2] }
  | _ => none }
def fnValidTypeNameCaseFreeRow : OpenClaim := { program := "qxb6609152afmt", sum := "07fd7f78610baf81de4fd8992d79d37628daac9c0dcf7bbb9a8376d087b79548", func := "example.com/halyard/halyard/zzlaws_pkg_mockfeed_b1.FnValidTypeNameCaseFree", spec := "fnValidTypeNameCaseFree", stops := ["fmt.Sprintf, its operands' methods called"], inPlace := ["fmt.Sprintf"], unfollowed := true, recurses := true, apart := false }
/-- NO THEOREM (fmt's text is open here; it may be false): for the released tool's asking of the row's closed facts alone. THE STATEMENT IS 'FnValidTypeNameCaseFreeToldSaid' (Qxb6609152aFmtCards.lean). -/
def FnValidTypeNameCaseFreeFormAsk : Prop := fnValidTypeNameCaseFreeRow.holds Tryf.pinned (OpenSpec.ofChange fnValidTypeNameCaseFreeSpec)

/-- ITS FALSE NEIGHBOUR: 'it returns false'. Refute it at one input. -/
def fnValidTypeNameCaseFreeWrong : ChangeSpec := { name := "fnValidTypeNameCaseFree", fn := fun _ => fun
  | [d1, d2] => { results := [.lit (.bool false)], args := [d1, d2] }
  | _ => none }
def FnValidTypeNameCaseFreeWrongFormAsk : Prop := fnValidTypeNameCaseFreeRow.holds Tryf.pinned (OpenSpec.ofChange fnValidTypeNameCaseFreeWrong)

/-- 'zzlaws_pkg_mockfeed_b1.FnFormatVersionHexRoundTrip': WHATEVER THE INPUT: true; the input reads as it did. -/
def fnFormatVersionHexRoundTripSpec : ChangeSpec := { name := "fnFormatVersionHexRoundTrip", fn := fun _ => fun
  | [d] => { results := [.lit (.bool true)], args := [d] }
  | _ => none }
def fnFormatVersionHexRoundTripRow : OpenClaim := { program := "qxb6609152afmt", sum := "07fd7f78610baf81de4fd8992d79d37628daac9c0dcf7bbb9a8376d087b79548", func := "example.com/halyard/halyard/zzlaws_pkg_mockfeed_b1.FnFormatVersionHexRoundTrip", spec := "fnFormatVersionHexRoundTrip", stops := ["fmt.Sprintf, its operands' methods called"], inPlace := ["fmt.Sprintf"], unfollowed := true, recurses := true, apart := false }
/-- NO THEOREM (fmt's text is open here; it may be false): for the released tool's asking of the row's closed facts alone. THE STATEMENT IS 'FnFormatVersionHexRoundTripToldSaid' (Qxb6609152aFmtCards.lean). -/
def FnFormatVersionHexRoundTripFormAsk : Prop := fnFormatVersionHexRoundTripRow.holds Tryf.pinned (OpenSpec.ofChange fnFormatVersionHexRoundTripSpec)

/-- ITS FALSE NEIGHBOUR: 'it returns false'. Refute it at one input. -/
def fnFormatVersionHexRoundTripWrong : ChangeSpec := { name := "fnFormatVersionHexRoundTrip", fn := fun _ => fun
  | [d] => { results := [.lit (.bool false)], args := [d] }
  | _ => none }
def FnFormatVersionHexRoundTripWrongFormAsk : Prop := fnFormatVersionHexRoundTripRow.holds Tryf.pinned (OpenSpec.ofChange fnFormatVersionHexRoundTripWrong)

/-- 'zzlaws_pkg_mockfeed_b1.FnFormatVersionSortsLikeNumbers': WHATEVER THE INPUT: true; the input reads as it did. -/
def fnFormatVersionSortsLikeNumbersSpec : ChangeSpec := { name := "fnFormatVersionSortsLikeNumbers", fn := fun _ => fun
  | [d1, d2] => { results := [.lit (.bool true)], args := [d1, d2] }
  | _ => none }
def fnFormatVersionSortsLikeNumbersRow : OpenClaim := { program := "qxb6609152afmt", sum := "07fd7f78610baf81de4fd8992d79d37628daac9c0dcf7bbb9a8376d087b79548", func := "example.com/halyard/halyard/zzlaws_pkg_mockfeed_b1.FnFormatVersionSortsLikeNumbers", spec := "fnFormatVersionSortsLikeNumbers", stops := ["fmt.Sprintf, its operands' methods called"], inPlace := ["fmt.Sprintf"], unfollowed := true, recurses := true, apart := false }
/-- NO THEOREM (fmt's text is open here; it may be false): for the released tool's asking of the row's closed facts alone. THE STATEMENT IS 'FnFormatVersionSortsLikeNumbersToldSaid' (Qxb6609152aFmtCards.lean). -/
def FnFormatVersionSortsLikeNumbersFormAsk : Prop := fnFormatVersionSortsLikeNumbersRow.holds Tryf.pinned (OpenSpec.ofChange fnFormatVersionSortsLikeNumbersSpec)

/-- ITS FALSE NEIGHBOUR: 'it returns false'. Refute it at one input. -/
def fnFormatVersionSortsLikeNumbersWrong : ChangeSpec := { name := "fnFormatVersionSortsLikeNumbers", fn := fun _ => fun
  | [d1, d2] => { results := [.lit (.bool false)], args := [d1, d2] }
  | _ => none }
def FnFormatVersionSortsLikeNumbersWrongFormAsk : Prop := fnFormatVersionSortsLikeNumbersRow.holds Tryf.pinned (OpenSpec.ofChange fnFormatVersionSortsLikeNumbersWrong)

/-- 'zzlaws_pkg_mockfeed_b1.FnExceptionKeepsNameAndPlainMessage': WHATEVER THE INPUT: true; the input reads as it did. -/
def fnExceptionKeepsNameAndPlainMessageSpec : ChangeSpec := { name := "fnExceptionKeepsNameAndPlainMessage", fn := fun _ => fun
  | [d1, d2] => { results := [.lit (.bool true)], args := [d1, d2] }
  | _ => none }
def fnExceptionKeepsNameAndPlainMessageRow : OpenClaim := { program := "qxb6609152afmt", sum := "07fd7f78610baf81de4fd8992d79d37628daac9c0dcf7bbb9a8376d087b79548", func := "example.com/halyard/halyard/zzlaws_pkg_mockfeed_b1.FnExceptionKeepsNameAndPlainMessage", spec := "fnExceptionKeepsNameAndPlainMessage", stops := ["fmt.Sprintf, its operands' methods called"], inPlace := ["fmt.Sprintf"], unfollowed := true, recurses := true, apart := false }
/-- NO THEOREM (fmt's text is open here; it may be false): for the released tool's asking of the row's closed facts alone. THE STATEMENT IS 'FnExceptionKeepsNameAndPlainMessageToldSaid' (Qxb6609152aFmtCards.lean). -/
def FnExceptionKeepsNameAndPlainMessageFormAsk : Prop := fnExceptionKeepsNameAndPlainMessageRow.holds Tryf.pinned (OpenSpec.ofChange fnExceptionKeepsNameAndPlainMessageSpec)

/-- ITS FALSE NEIGHBOUR: 'it returns false'. Refute it at one input. -/
def fnExceptionKeepsNameAndPlainMessageWrong : ChangeSpec := { name := "fnExceptionKeepsNameAndPlainMessage", fn := fun _ => fun
  | [d1, d2] => { results := [.lit (.bool false)], args := [d1, d2] }
  | _ => none }
def FnExceptionKeepsNameAndPlainMessageWrongFormAsk : Prop := fnExceptionKeepsNameAndPlainMessageRow.holds Tryf.pinned (OpenSpec.ofChange fnExceptionKeepsNameAndPlainMessageWrong)

end Rows
end Go.Proofs.Qxb6609152aFmt
