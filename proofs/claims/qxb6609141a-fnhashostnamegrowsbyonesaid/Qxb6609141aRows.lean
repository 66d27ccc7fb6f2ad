/-
  NARROWER THAN 'FOR EVERY INPUT', by the rows' own cells (each row's printed sentence says how): FnHasHostnameSetAgreesWithList: maps · FnHasHostnameGrowsByOne: maps.
  DERIVED. THE GIVEN ROWS OF THIS SEAT. 4 by the template 'for every input the law returns true; each argument reads behind the call as it read before'; 0 by the template 'total and deterministic' (their statements: Qxb6609141aTotals.lean).
  GIVEN WITH THE SEED: the statements are not yours to turn. If you find one false, say at which input.
  Laid BY PROGRAM, IN A SANDBOX (cutbox-rows.mjs): the forced cells as the released guide's own fill.sh prints them over the translation a27e2c2ece90ffa4… (all of the seat's roots in one cut). By AI agents, Wed Nov 11 2026. No macro, syntax, notation, axiom, sorry.
-/
import Derived.Test.Qxb6609141aChecked
import GoSem.Claim
import GoSem.ClaimJoined
import GoSem.ClaimMapViews
import Derived.JoinedTies
import Derived.KernelRfl
namespace Go.Proofs.Qxb6609141a
/- THE CELL 'sum', in the pinned program and in every row, IS THE sha256 OF THE DUMP (.gsa) THAT Qxb6609141aProg.lean LOADS. Nothing in Lean hashes anything: it is a label: what it is worth is what the hold of that sum in a sandbox is worth. -/
noncomputable def Try.pinned : Pinned := { name := "qxb6609141a", sum := "a27e2c2ece90ffa46c5b3ba588204c4c9110ab9d1feaa33b804d33fc8d652ff3", checked := Try.checked }
namespace Rows
def none {H : Type} : Left H := { results := [], args := [] }

/-- 'zzlaws_pkg_decide_b1.FnDomainsSplitAtAnyCut': WHATEVER THE INPUT: true; the input reads as it did. -/
def fnDomainsSplitAtAnyCutSpec : ChangeSpec := { name := "fnDomainsSplitAtAnyCut", fn := fun _ => fun
  | [d1, d2] => { results := [.lit (.bool true)], args := [d1, d2] }
  | _ => none }
def fnDomainsSplitAtAnyCutRow : OpenClaim := { program := "qxb6609141a", sum := "a27e2c2ece90ffa46c5b3ba588204c4c9110ab9d1feaa33b804d33fc8d652ff3", func := "example.com/tiebreak/tiebreak/zzlaws_pkg_decide_b1.FnDomainsSplitAtAnyCut", spec := "fnDomainsSplitAtAnyCut", apart := false }
def FnDomainsSplitAtAnyCutSaid : Prop := fnDomainsSplitAtAnyCutRow.holds Try.pinned (OpenSpec.ofChange fnDomainsSplitAtAnyCutSpec)

/-- ITS FALSE NEIGHBOUR: 'it returns false'. Refute it at one input. -/
def fnDomainsSplitAtAnyCutWrong : ChangeSpec := { name := "fnDomainsSplitAtAnyCut", fn := fun _ => fun
  | [d1, d2] => { results := [.lit (.bool false)], args := [d1, d2] }
  | _ => none }
def FnDomainsSplitAtAnyCutWrongFalsely : Prop := fnDomainsSplitAtAnyCutRow.holds Try.pinned (OpenSpec.ofChange fnDomainsSplitAtAnyCutWrong)

/-- 'zzlaws_pkg_decide_b1.FnDomainsLabelInFront': WHATEVER THE INPUT: true; the input reads as it did. -/
def fnDomainsLabelInFrontSpec : ChangeSpec := { name := "fnDomainsLabelInFront", fn := fun _ => fun
  | [d1, d2] => { results := [.lit (.bool true)], args := [d1, d2] }
  | _ => none }
def fnDomainsLabelInFrontRow : OpenClaim := { program := "qxb6609141a", sum := "a27e2c2ece90ffa46c5b3ba588204c4c9110ab9d1feaa33b804d33fc8d652ff3", func := "example.com/tiebreak/tiebreak/zzlaws_pkg_decide_b1.FnDomainsLabelInFront", spec := "fnDomainsLabelInFront", apart := false }
def FnDomainsLabelInFrontSaid : Prop := fnDomainsLabelInFrontRow.holds Try.pinned (OpenSpec.ofChange fnDomainsLabelInFrontSpec)

/-- ITS FALSE NEIGHBOUR: 'it returns false'. Refute it at one input. -/
def fnDomainsLabelInFrontWrong : ChangeSpec := { name := "fnDomainsLabelInFront", fn := fun _ => fun
  | [d1, d2] => { results := [.lit (.bool false)], args := [d1, d2] }
  | _ => none }
def FnDomainsLabelInFrontWrongFalsely : Prop := fnDomainsLabelInFrontRow.holds Try.pinned (OpenSpec.ofChange fnDomainsLabelInFrontWrong)

/-- 'zzlaws_pkg_decide_b1.FnHasHostnameSetAgreesWithList': WHATEVER THE INPUT: true; the input reads as it did. -/
def fnHasHostnameSetAgreesWithListSpec : ChangeSpec := { name := "fnHasHostnameSetAgreesWithList", fn := fun _ => fun
  | [d1, d2, d3] => { results := [.lit (.bool true)], args := [d1, d2, d3] }
  | _ => none }
def fnHasHostnameSetAgreesWithListRow : OpenClaim := { program := "qxb6609141a", sum := "a27e2c2ece90ffa46c5b3ba588204c4c9110ab9d1feaa33b804d33fc8d652ff3", func := "example.com/tiebreak/tiebreak/zzlaws_pkg_decide_b1.FnHasHostnameSetAgreesWithList", spec := "fnHasHostnameSetAgreesWithList", maps := true, apart := false }
def FnHasHostnameSetAgreesWithListSaid : Prop := fnHasHostnameSetAgreesWithListRow.holds Try.pinned (OpenSpec.ofChange fnHasHostnameSetAgreesWithListSpec)

/-- ITS FALSE NEIGHBOUR: 'it returns false'. Refute it at one input. -/
def fnHasHostnameSetAgreesWithListWrong : ChangeSpec := { name := "fnHasHostnameSetAgreesWithList", fn := fun _ => fun
  | [d1, d2, d3] => { results := [.lit (.bool false)], args := [d1, d2, d3] }
  | _ => none }
def FnHasHostnameSetAgreesWithListWrongFalsely : Prop := fnHasHostnameSetAgreesWithListRow.holds Try.pinned (OpenSpec.ofChange fnHasHostnameSetAgreesWithListWrong)

/-- 'zzlaws_pkg_decide_b1.FnHasHostnameGrowsByOne': WHATEVER THE INPUT: true; the input reads as it did. -/
def fnHasHostnameGrowsByOneSpec : ChangeSpec := { name := "fnHasHostnameGrowsByOne", fn := fun _ => fun
  | [d1, d2, d3, d4] => { results := [.lit (.bool true)], args := [d1, d2, d3, d4] }
  | _ => none }
def fnHasHostnameGrowsByOneRow : OpenClaim := { program := "qxb6609141a", sum := "a27e2c2ece90ffa46c5b3ba588204c4c9110ab9d1feaa33b804d33fc8d652ff3", func := "example.com/tiebreak/tiebreak/zzlaws_pkg_decide_b1.FnHasHostnameGrowsByOne", spec := "fnHasHostnameGrowsByOne", maps := true, apart := false }
def FnHasHostnameGrowsByOneSaid : Prop := fnHasHostnameGrowsByOneRow.holds Try.pinned (OpenSpec.ofChange fnHasHostnameGrowsByOneSpec)

/-- ITS FALSE NEIGHBOUR: 'it returns false'. Refute it at one input. -/
def fnHasHostnameGrowsByOneWrong : ChangeSpec := { name := "fnHasHostnameGrowsByOne", fn := fun _ => fun
  | [d1, d2, d3, d4] => { results := [.lit (.bool false)], args := [d1, d2, d3, d4] }
  | _ => none }
def FnHasHostnameGrowsByOneWrongFalsely : Prop := fnHasHostnameGrowsByOneRow.holds Try.pinned (OpenSpec.ofChange fnHasHostnameGrowsByOneWrong)

end Rows
end Go.Proofs.Qxb6609141a
