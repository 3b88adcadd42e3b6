/-
  No cell of these rows narrows 'for every input' (looked for: loops, veiled, ifaces, maps, wideKeys, modest, calm, conditions, laid).
  DERIVED. THE GIVEN ROWS OF THIS SEAT. 4 by the template 'for every input the law returns true; each argument reads behind the call as it read before'; 0 by the template 'total and deterministic' (their statements: Qxb6608971aTotals.lean).
  GIVEN WITH THE SEED: the statements are not yours to turn. If you find one false, say at which input.
  Laid BY PROGRAM, IN A SANDBOX (cutbox-rows.mjs): the forced cells as the released guide's own fill.sh prints them over the translation 602d81bd8632bc19… (all of the seat's roots in one cut). By AI agents, Wed Nov 11 2026. No macro, syntax, notation, axiom, sorry.
-/
import Derived.Test.Qxb6608971aChecked
import GoSem.Claim
import GoSem.ClaimJoined
import GoSem.ClaimMapViews
import Derived.JoinedTies
import Derived.KernelRfl
namespace Go.Proofs.Qxb6608971a
/- THE CELL 'sum', in the pinned program and in every row, IS THE sha256 OF THE DUMP (.gsa) THAT Qxb6608971aProg.lean LOADS. Nothing in Lean hashes anything: it is a label: what it is worth is what the hold of that sum in a sandbox is worth. -/
noncomputable def Try.pinned : Pinned := { name := "qxb6608971a", sum := "602d81bd8632bc19f6d0509c182241da51bd8e97852a3ad44e402e5ad93df51b", checked := Try.checked }
namespace Rows
def none {H : Type} : Left H := { results := [], args := [] }

/-- 'zzlaws_root_b1.FnFamilyKeyTwoIDsShareAFamilyExactlyWhenStemAndWidthAgree': WHATEVER THE INPUT: true; the input reads as it did. -/
def fnFamilyKeyTwoIDsShareAFamilyExactlyWhenStemAndWidthAgreeSpec : ChangeSpec := { name := "fnFamilyKeyTwoIDsShareAFamilyExactlyWhenStemAndWidthAgree", fn := fun _ => fun
  | [d1, d2, d3, d4, d5, d6, d7] => { results := [.lit (.bool true)], args := [d1, d2, d3, d4, d5, d6, d7] }
  | _ => none }
def fnFamilyKeyTwoIDsShareAFamilyExactlyWhenStemAndWidthAgreeRow : OpenClaim := { program := "qxb6608971a", sum := "602d81bd8632bc19f6d0509c182241da51bd8e97852a3ad44e402e5ad93df51b", func := "example.com/limitbook/limitbook/zzlaws_root_b1.FnFamilyKeyTwoIDsShareAFamilyExactlyWhenStemAndWidthAgree", spec := "fnFamilyKeyTwoIDsShareAFamilyExactlyWhenStemAndWidthAgree", plainKeys := false, apart := false }
def FnFamilyKeyTwoIDsShareAFamilyExactlyWhenStemAndWidthAgreeSaid : Prop := fnFamilyKeyTwoIDsShareAFamilyExactlyWhenStemAndWidthAgreeRow.holds Try.pinned (OpenSpec.ofChange fnFamilyKeyTwoIDsShareAFamilyExactlyWhenStemAndWidthAgreeSpec)

/-- ITS FALSE NEIGHBOUR: 'it returns false'. Refute it at one input. -/
def fnFamilyKeyTwoIDsShareAFamilyExactlyWhenStemAndWidthAgreeWrong : ChangeSpec := { name := "fnFamilyKeyTwoIDsShareAFamilyExactlyWhenStemAndWidthAgree", fn := fun _ => fun
  | [d1, d2, d3, d4, d5, d6, d7] => { results := [.lit (.bool false)], args := [d1, d2, d3, d4, d5, d6, d7] }
  | _ => none }
def FnFamilyKeyTwoIDsShareAFamilyExactlyWhenStemAndWidthAgreeWrongFalsely : Prop := fnFamilyKeyTwoIDsShareAFamilyExactlyWhenStemAndWidthAgreeRow.holds Try.pinned (OpenSpec.ofChange fnFamilyKeyTwoIDsShareAFamilyExactlyWhenStemAndWidthAgreeWrong)

/-- 'zzlaws_root_b1.FnFamilyKeyNumbersFamiliesInOrderUpToTheCap': WHATEVER THE INPUT: true; the input reads as it did. -/
def fnFamilyKeyNumbersFamiliesInOrderUpToTheCapSpec : ChangeSpec := { name := "fnFamilyKeyNumbersFamiliesInOrderUpToTheCap", fn := fun _ => fun
  | [d1, d2, d3] => { results := [.lit (.bool true)], args := [d1, d2, d3] }
  | _ => none }
def fnFamilyKeyNumbersFamiliesInOrderUpToTheCapRow : OpenClaim := { program := "qxb6608971a", sum := "602d81bd8632bc19f6d0509c182241da51bd8e97852a3ad44e402e5ad93df51b", func := "example.com/limitbook/limitbook/zzlaws_root_b1.FnFamilyKeyNumbersFamiliesInOrderUpToTheCap", spec := "fnFamilyKeyNumbersFamiliesInOrderUpToTheCap", plainKeys := false, apart := false }
def FnFamilyKeyNumbersFamiliesInOrderUpToTheCapSaid : Prop := fnFamilyKeyNumbersFamiliesInOrderUpToTheCapRow.holds Try.pinned (OpenSpec.ofChange fnFamilyKeyNumbersFamiliesInOrderUpToTheCapSpec)

/-- ITS FALSE NEIGHBOUR: 'it returns false'. Refute it at one input. -/
def fnFamilyKeyNumbersFamiliesInOrderUpToTheCapWrong : ChangeSpec := { name := "fnFamilyKeyNumbersFamiliesInOrderUpToTheCap", fn := fun _ => fun
  | [d1, d2, d3] => { results := [.lit (.bool false)], args := [d1, d2, d3] }
  | _ => none }
def FnFamilyKeyNumbersFamiliesInOrderUpToTheCapWrongFalsely : Prop := fnFamilyKeyNumbersFamiliesInOrderUpToTheCapRow.holds Try.pinned (OpenSpec.ofChange fnFamilyKeyNumbersFamiliesInOrderUpToTheCapWrong)

/-- 'zzlaws_root_b1.FnNamesLimitsOfJoinedListsIsBothParts': WHATEVER THE INPUT: true; the input reads as it did. -/
def fnNamesLimitsOfJoinedListsIsBothPartsSpec : ChangeSpec := { name := "fnNamesLimitsOfJoinedListsIsBothParts", fn := fun _ => fun
  | [d1, d2, d3, d4] => { results := [.lit (.bool true)], args := [d1, d2, d3, d4] }
  | _ => none }
def fnNamesLimitsOfJoinedListsIsBothPartsRow : OpenClaim := { program := "qxb6608971a", sum := "602d81bd8632bc19f6d0509c182241da51bd8e97852a3ad44e402e5ad93df51b", func := "example.com/limitbook/limitbook/zzlaws_root_b1.FnNamesLimitsOfJoinedListsIsBothParts", spec := "fnNamesLimitsOfJoinedListsIsBothParts", unfollowed := true, recurses := true, plainKeys := false, apart := false }
def FnNamesLimitsOfJoinedListsIsBothPartsSaid : Prop := fnNamesLimitsOfJoinedListsIsBothPartsRow.holds Try.pinned (OpenSpec.ofChange fnNamesLimitsOfJoinedListsIsBothPartsSpec)

/-- ITS FALSE NEIGHBOUR: 'it returns false'. Refute it at one input. -/
def fnNamesLimitsOfJoinedListsIsBothPartsWrong : ChangeSpec := { name := "fnNamesLimitsOfJoinedListsIsBothParts", fn := fun _ => fun
  | [d1, d2, d3, d4] => { results := [.lit (.bool false)], args := [d1, d2, d3, d4] }
  | _ => none }
def FnNamesLimitsOfJoinedListsIsBothPartsWrongFalsely : Prop := fnNamesLimitsOfJoinedListsIsBothPartsRow.holds Try.pinned (OpenSpec.ofChange fnNamesLimitsOfJoinedListsIsBothPartsWrong)

/-- 'zzlaws_root_b1.FnNamesLimitsKeptWhenOneLimitIsPutInOnBothSides': WHATEVER THE INPUT: true; the input reads as it did. -/
def fnNamesLimitsKeptWhenOneLimitIsPutInOnBothSidesSpec : ChangeSpec := { name := "fnNamesLimitsKeptWhenOneLimitIsPutInOnBothSides", fn := fun _ => fun
  | [d1, d2, d3, d4, d5, d6] => { results := [.lit (.bool true)], args := [d1, d2, d3, d4, d5, d6] }
  | _ => none }
def fnNamesLimitsKeptWhenOneLimitIsPutInOnBothSidesRow : OpenClaim := { program := "qxb6608971a", sum := "602d81bd8632bc19f6d0509c182241da51bd8e97852a3ad44e402e5ad93df51b", func := "example.com/limitbook/limitbook/zzlaws_root_b1.FnNamesLimitsKeptWhenOneLimitIsPutInOnBothSides", spec := "fnNamesLimitsKeptWhenOneLimitIsPutInOnBothSides", unfollowed := true, recurses := true, plainKeys := false, apart := false }
def FnNamesLimitsKeptWhenOneLimitIsPutInOnBothSidesSaid : Prop := fnNamesLimitsKeptWhenOneLimitIsPutInOnBothSidesRow.holds Try.pinned (OpenSpec.ofChange fnNamesLimitsKeptWhenOneLimitIsPutInOnBothSidesSpec)

/-- ITS FALSE NEIGHBOUR: 'it returns false'. Refute it at one input. -/
def fnNamesLimitsKeptWhenOneLimitIsPutInOnBothSidesWrong : ChangeSpec := { name := "fnNamesLimitsKeptWhenOneLimitIsPutInOnBothSides", fn := fun _ => fun
  | [d1, d2, d3, d4, d5, d6] => { results := [.lit (.bool false)], args := [d1, d2, d3, d4, d5, d6] }
  | _ => none }
def FnNamesLimitsKeptWhenOneLimitIsPutInOnBothSidesWrongFalsely : Prop := fnNamesLimitsKeptWhenOneLimitIsPutInOnBothSidesRow.holds Try.pinned (OpenSpec.ofChange fnNamesLimitsKeptWhenOneLimitIsPutInOnBothSidesWrong)

end Rows
end Go.Proofs.Qxb6608971a
