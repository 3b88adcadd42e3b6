/-
  No cell of these rows narrows 'for every input' (looked for: loops, veiled, ifaces, maps, wideKeys, modest, calm, conditions, laid).
  DERIVED. THE GIVEN ROWS OF THIS SEAT. 5 by the template 'for every input the law returns true; each argument reads behind the call as it read before'; 0 by the template 'total and deterministic' (their statements: Qxb6609105aTotals.lean).
  GIVEN WITH THE SEED: the statements are not yours to turn. If you find one false, say at which input.
  Laid BY PROGRAM, IN A SANDBOX (cutbox-rows.mjs): the forced cells as the released guide's own fill.sh prints them over the translation 3716b6746fbfe3b5… (all of the seat's roots in one cut). By AI agents, Wed Nov 11 2026. No macro, syntax, notation, axiom, sorry.
-/
import Derived.Test.Qxb6609105aChecked
import GoSem.Claim
import GoSem.ClaimJoined
import GoSem.ClaimMapViews
import Derived.JoinedTies
import Derived.KernelRfl
namespace Go.Proofs.Qxb6609105a
/- THE CELL 'sum', in the pinned program and in every row, IS THE sha256 OF THE DUMP (.gsa) THAT Qxb6609105aProg.lean LOADS. Nothing in Lean hashes anything: it is a label: what it is worth is what the hold of that sum in a sandbox is worth. -/
noncomputable def Try.pinned : Pinned := { name := "qxb6609105a", sum := "3716b6746fbfe3b50f42131b0359b1aa96763cb76cfc646be8e4868ea11d406b", checked := Try.checked }
namespace Rows
def none {H : Type} : Left H := { results := [], args := [] }

/-- 'zzlaws_root_b1.FnDecisionKindRoleShift': WHATEVER THE INPUT: true; the input reads as it did. -/
def fnDecisionKindRoleShiftSpec : ChangeSpec := { name := "fnDecisionKindRoleShift", fn := fun _ => fun
  | [d1, d2] => { results := [.lit (.bool true)], args := [d1, d2] }
  | _ => none }
def fnDecisionKindRoleShiftRow : OpenClaim := { program := "qxb6609105a", sum := "3716b6746fbfe3b50f42131b0359b1aa96763cb76cfc646be8e4868ea11d406b", func := "example.com/conclave/conclave/zzlaws_root_b1.FnDecisionKindRoleShift", spec := "fnDecisionKindRoleShift", apart := false }
def FnDecisionKindRoleShiftSaid : Prop := fnDecisionKindRoleShiftRow.holds Try.pinned (OpenSpec.ofChange fnDecisionKindRoleShiftSpec)

/-- ITS FALSE NEIGHBOUR: 'it returns false'. Refute it at one input. -/
def fnDecisionKindRoleShiftWrong : ChangeSpec := { name := "fnDecisionKindRoleShift", fn := fun _ => fun
  | [d1, d2] => { results := [.lit (.bool false)], args := [d1, d2] }
  | _ => none }
def FnDecisionKindRoleShiftWrongFalsely : Prop := fnDecisionKindRoleShiftRow.holds Try.pinned (OpenSpec.ofChange fnDecisionKindRoleShiftWrong)

/-- 'zzlaws_root_b1.FnDecisionKindTellsRoleAndDecisionApart': WHATEVER THE INPUT: true; the input reads as it did. -/
def fnDecisionKindTellsRoleAndDecisionApartSpec : ChangeSpec := { name := "fnDecisionKindTellsRoleAndDecisionApart", fn := fun _ => fun
  | [d1, d2, d3, d4] => { results := [.lit (.bool true)], args := [d1, d2, d3, d4] }
  | _ => none }
def fnDecisionKindTellsRoleAndDecisionApartRow : OpenClaim := { program := "qxb6609105a", sum := "3716b6746fbfe3b50f42131b0359b1aa96763cb76cfc646be8e4868ea11d406b", func := "example.com/conclave/conclave/zzlaws_root_b1.FnDecisionKindTellsRoleAndDecisionApart", spec := "fnDecisionKindTellsRoleAndDecisionApart", apart := false }
def FnDecisionKindTellsRoleAndDecisionApartSaid : Prop := fnDecisionKindTellsRoleAndDecisionApartRow.holds Try.pinned (OpenSpec.ofChange fnDecisionKindTellsRoleAndDecisionApartSpec)

/-- ITS FALSE NEIGHBOUR: 'it returns false'. Refute it at one input. -/
def fnDecisionKindTellsRoleAndDecisionApartWrong : ChangeSpec := { name := "fnDecisionKindTellsRoleAndDecisionApart", fn := fun _ => fun
  | [d1, d2, d3, d4] => { results := [.lit (.bool false)], args := [d1, d2, d3, d4] }
  | _ => none }
def FnDecisionKindTellsRoleAndDecisionApartWrongFalsely : Prop := fnDecisionKindTellsRoleAndDecisionApartRow.holds Try.pinned (OpenSpec.ofChange fnDecisionKindTellsRoleAndDecisionApartWrong)

/-- 'zzlaws_root_b1.FnStreamPushesStoreEntriesAndCount': WHATEVER THE INPUT: true; the input reads as it did. -/
def fnStreamPushesStoreEntriesAndCountSpec : ChangeSpec := { name := "fnStreamPushesStoreEntriesAndCount", fn := fun _ => fun
  | [d1, d2, d3, d4, d5, d6, d7, d8, d9, d10, d11] => { results := [.lit (.bool true)], args := [d1, d2, d3, d4, d5, d6, d7, d8, d9, d10, d11] }
  | _ => none }
def fnStreamPushesStoreEntriesAndCountRow : OpenClaim := { program := "qxb6609105a", sum := "3716b6746fbfe3b50f42131b0359b1aa96763cb76cfc646be8e4868ea11d406b", func := "example.com/conclave/conclave/zzlaws_root_b1.FnStreamPushesStoreEntriesAndCount", spec := "fnStreamPushesStoreEntriesAndCount", apart := false }
def FnStreamPushesStoreEntriesAndCountSaid : Prop := fnStreamPushesStoreEntriesAndCountRow.holds Try.pinned (OpenSpec.ofChange fnStreamPushesStoreEntriesAndCountSpec)

/-- ITS FALSE NEIGHBOUR: 'it returns false'. Refute it at one input. -/
def fnStreamPushesStoreEntriesAndCountWrong : ChangeSpec := { name := "fnStreamPushesStoreEntriesAndCount", fn := fun _ => fun
  | [d1, d2, d3, d4, d5, d6, d7, d8, d9, d10, d11] => { results := [.lit (.bool false)], args := [d1, d2, d3, d4, d5, d6, d7, d8, d9, d10, d11] }
  | _ => none }
def FnStreamPushesStoreEntriesAndCountWrongFalsely : Prop := fnStreamPushesStoreEntriesAndCountRow.holds Try.pinned (OpenSpec.ofChange fnStreamPushesStoreEntriesAndCountWrong)

/-- 'zzlaws_root_b1.FnQueryReadAsChangeIsStateOfAsker': WHATEVER THE INPUT: true; the input reads as it did. -/
def fnQueryReadAsChangeIsStateOfAskerSpec : ChangeSpec := { name := "fnQueryReadAsChangeIsStateOfAsker", fn := fun _ => fun
  | [d1, d2, d3, d4, d5, d6] => { results := [.lit (.bool true)], args := [d1, d2, d3, d4, d5, d6] }
  | _ => none }
def fnQueryReadAsChangeIsStateOfAskerRow : OpenClaim := { program := "qxb6609105a", sum := "3716b6746fbfe3b50f42131b0359b1aa96763cb76cfc646be8e4868ea11d406b", func := "example.com/conclave/conclave/zzlaws_root_b1.FnQueryReadAsChangeIsStateOfAsker", spec := "fnQueryReadAsChangeIsStateOfAsker", apart := false }
def FnQueryReadAsChangeIsStateOfAskerSaid : Prop := fnQueryReadAsChangeIsStateOfAskerRow.holds Try.pinned (OpenSpec.ofChange fnQueryReadAsChangeIsStateOfAskerSpec)

/-- ITS FALSE NEIGHBOUR: 'it returns false'. Refute it at one input. -/
def fnQueryReadAsChangeIsStateOfAskerWrong : ChangeSpec := { name := "fnQueryReadAsChangeIsStateOfAsker", fn := fun _ => fun
  | [d1, d2, d3, d4, d5, d6] => { results := [.lit (.bool false)], args := [d1, d2, d3, d4, d5, d6] }
  | _ => none }
def FnQueryReadAsChangeIsStateOfAskerWrongFalsely : Prop := fnQueryReadAsChangeIsStateOfAskerRow.holds Try.pinned (OpenSpec.ofChange fnQueryReadAsChangeIsStateOfAskerWrong)

/-- 'zzlaws_root_b1.FnChangeOfAskerNameOnly': WHATEVER THE INPUT: true; the input reads as it did. -/
def fnChangeOfAskerNameOnlySpec : ChangeSpec := { name := "fnChangeOfAskerNameOnly", fn := fun _ => fun
  | [d1, d2, d3, d4, d5, d6, d7, d8, d9] => { results := [.lit (.bool true)], args := [d1, d2, d3, d4, d5, d6, d7, d8, d9] }
  | _ => none }
def fnChangeOfAskerNameOnlyRow : OpenClaim := { program := "qxb6609105a", sum := "3716b6746fbfe3b50f42131b0359b1aa96763cb76cfc646be8e4868ea11d406b", func := "example.com/conclave/conclave/zzlaws_root_b1.FnChangeOfAskerNameOnly", spec := "fnChangeOfAskerNameOnly", apart := false }
def FnChangeOfAskerNameOnlySaid : Prop := fnChangeOfAskerNameOnlyRow.holds Try.pinned (OpenSpec.ofChange fnChangeOfAskerNameOnlySpec)

/-- ITS FALSE NEIGHBOUR: 'it returns false'. Refute it at one input. -/
def fnChangeOfAskerNameOnlyWrong : ChangeSpec := { name := "fnChangeOfAskerNameOnly", fn := fun _ => fun
  | [d1, d2, d3, d4, d5, d6, d7, d8, d9] => { results := [.lit (.bool false)], args := [d1, d2, d3, d4, d5, d6, d7, d8, d9] }
  | _ => none }
def FnChangeOfAskerNameOnlyWrongFalsely : Prop := fnChangeOfAskerNameOnlyRow.holds Try.pinned (OpenSpec.ofChange fnChangeOfAskerNameOnlyWrong)

end Rows
end Go.Proofs.Qxb6609105a
