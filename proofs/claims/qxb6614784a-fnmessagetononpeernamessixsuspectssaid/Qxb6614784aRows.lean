/-
  No cell of these rows narrows 'for every input' (looked for: loops, veiled, ifaces, maps, wideKeys, modest, calm, conditions, laid).
  DERIVED. THE GIVEN ROWS OF THIS SEAT. 2 by the template 'for every input the law returns true; each argument reads behind the call as it read before'; 0 by the template 'total and deterministic' (their statements: Qxb6614784aTotals.lean).
  GIVEN WITH THE SEED: the statements are not yours to turn. If you find one false, say at which input.
  Laid BY PROGRAM, IN A SANDBOX (cutbox-rows.mjs): the forced cells as the released guide's own fill.sh prints them over the translation f001b42ec21e583e… (all of the seat's roots in one cut). By AI agents, Wed Nov 11 2026. No macro, syntax, notation, axiom, sorry.
-/
import Derived.Test.Qxb6614784aChecked
import GoSem.Claim
import GoSem.ClaimJoined
import GoSem.ClaimMapViews
import Derived.JoinedTies
import Derived.KernelRfl
namespace Go.Proofs.Qxb6614784a
/- THE CELL 'sum', in the pinned program and in every row, IS THE sha256 OF THE DUMP (.gsa) THAT Qxb6614784aProg.lean LOADS. Nothing in Lean hashes anything: it is a label: what it is worth is what the hold of that sum in a sandbox is worth. -/
noncomputable def Try.pinned : Pinned := { name := "qxb6614784a", sum := "f001b42ec21e583e0a1f8b574141e96ab6cd0c539178feb13d7492189ae3c6f8", checked := Try.checked }
namespace Rows
def none {H : Type} : Left H := { results := [], args := [] }

/-- 'zzlaws_internal_detector_b1.FnMessageToNonPeerNamesEveryLowSuspect': WHATEVER THE INPUT: true; the input reads as it did. -/
def fnMessageToNonPeerNamesEveryLowSuspectSpec : ChangeSpec := { name := "fnMessageToNonPeerNamesEveryLowSuspect", fn := fun _ => fun
  | [d1, d2, d3, d4, d5] => { results := [.lit (.bool true)], args := [d1, d2, d3, d4, d5] }
  | _ => none }
def fnMessageToNonPeerNamesEveryLowSuspectRow : OpenClaim := { program := "qxb6614784a", sum := "f001b42ec21e583e0a1f8b574141e96ab6cd0c539178feb13d7492189ae3c6f8", func := "example.com/knell/knell/zzlaws_internal_detector_b1.FnMessageToNonPeerNamesEveryLowSuspect", spec := "fnMessageToNonPeerNamesEveryLowSuspect", unfollowed := true, recurses := true, apart := false }
def FnMessageToNonPeerNamesEveryLowSuspectSaid : Prop := fnMessageToNonPeerNamesEveryLowSuspectRow.holds Try.pinned (OpenSpec.ofChange fnMessageToNonPeerNamesEveryLowSuspectSpec)

/-- ITS FALSE NEIGHBOUR: 'it returns false'. Refute it at one input. -/
def fnMessageToNonPeerNamesEveryLowSuspectWrong : ChangeSpec := { name := "fnMessageToNonPeerNamesEveryLowSuspect", fn := fun _ => fun
  | [d1, d2, d3, d4, d5] => { results := [.lit (.bool false)], args := [d1, d2, d3, d4, d5] }
  | _ => none }
def FnMessageToNonPeerNamesEveryLowSuspectWrongFalsely : Prop := fnMessageToNonPeerNamesEveryLowSuspectRow.holds Try.pinned (OpenSpec.ofChange fnMessageToNonPeerNamesEveryLowSuspectWrong)

/-- 'zzlaws_internal_detector_b1.FnMessageToNonPeerNamesSixSuspects': WHATEVER THE INPUT: true; the input reads as it did. -/
def fnMessageToNonPeerNamesSixSuspectsSpec : ChangeSpec := { name := "fnMessageToNonPeerNamesSixSuspects", fn := fun _ => fun
  | [d1, d2, d3, d4, d5, d6, d7, d8, d9, d10] => { results := [.lit (.bool true)], args := [d1, d2, d3, d4, d5, d6, d7, d8, d9, d10] }
  | _ => none }
def fnMessageToNonPeerNamesSixSuspectsRow : OpenClaim := { program := "qxb6614784a", sum := "f001b42ec21e583e0a1f8b574141e96ab6cd0c539178feb13d7492189ae3c6f8", func := "example.com/knell/knell/zzlaws_internal_detector_b1.FnMessageToNonPeerNamesSixSuspects", spec := "fnMessageToNonPeerNamesSixSuspects", unfollowed := true, recurses := true, apart := false }
def FnMessageToNonPeerNamesSixSuspectsSaid : Prop := fnMessageToNonPeerNamesSixSuspectsRow.holds Try.pinned (OpenSpec.ofChange fnMessageToNonPeerNamesSixSuspectsSpec)

/-- ITS FALSE NEIGHBOUR: 'it returns false'. Refute it at one input. -/
def fnMessageToNonPeerNamesSixSuspectsWrong : ChangeSpec := { name := "fnMessageToNonPeerNamesSixSuspects", fn := fun _ => fun
  | [d1, d2, d3, d4, d5, d6, d7, d8, d9, d10] => { results := [.lit (.bool false)], args := [d1, d2, d3, d4, d5, d6, d7, d8, d9, d10] }
  | _ => none }
def FnMessageToNonPeerNamesSixSuspectsWrongFalsely : Prop := fnMessageToNonPeerNamesSixSuspectsRow.holds Try.pinned (OpenSpec.ofChange fnMessageToNonPeerNamesSixSuspectsWrong)

end Rows
end Go.Proofs.Qxb6614784a
