/-
  No cell of these rows narrows 'for every input' (looked for: loops, veiled, ifaces, maps, wideKeys, modest, calm, conditions, laid).
  DERIVED. THE GIVEN ROWS OF THIS SEAT. 7 by the template 'for every input the law returns true; each argument reads behind the call as it read before'; 0 by the template 'total and deterministic' (their statements: Qxb6608657aTotals.lean).
  GIVEN WITH THE SEED: the statements are not yours to turn. If you find one false, say at which input.
  Laid BY PROGRAM, IN A SANDBOX (cutbox-rows.mjs): the forced cells as the released guide's own fill.sh prints them over the translation 4a723422de3e96fc… (all of the seat's roots in one cut). By AI agents, Wed Nov 11 2026. No macro, syntax, notation, axiom, sorry.
-/
import Derived.Test.Qxb6608657aChecked
import GoSem.Claim
import GoSem.ClaimJoined
import GoSem.ClaimMapViews
import Derived.JoinedTies
import Derived.KernelRfl
namespace Go.Proofs.Qxb6608657a
/- THE CELL 'sum', in the pinned program and in every row, IS THE sha256 OF THE DUMP (.gsa) THAT Qxb6608657aProg.lean LOADS. Nothing in Lean hashes anything: it is a label: what it is worth is what the hold of that sum in a sandbox is worth. -/
noncomputable def Try.pinned : Pinned := { name := "qxb6608657a", sum := "4a723422de3e96fcd2ee6ca4fdfe5c6732a12bd4909ede527e99fc383201db6b", checked := Try.checked }
namespace Rows
def none {H : Type} : Left H := { results := [], args := [] }

/-- 'zzlaws_internal_engine_b1.FnSumCmpAgreesWithSubtraction': WHATEVER THE INPUT: true; the input reads as it did. -/
def fnSumCmpAgreesWithSubtractionSpec : ChangeSpec := { name := "fnSumCmpAgreesWithSubtraction", fn := fun _ => fun
  | [d1, d2, d3, d4] => { results := [.lit (.bool true)], args := [d1, d2, d3, d4] }
  | _ => none }
def fnSumCmpAgreesWithSubtractionRow : OpenClaim := { program := "qxb6608657a", sum := "4a723422de3e96fcd2ee6ca4fdfe5c6732a12bd4909ede527e99fc383201db6b", func := "example.com/sluice/sluice/zzlaws_internal_engine_b1.FnSumCmpAgreesWithSubtraction", spec := "fnSumCmpAgreesWithSubtraction", apart := false }
def FnSumCmpAgreesWithSubtractionSaid : Prop := fnSumCmpAgreesWithSubtractionRow.holds Try.pinned (OpenSpec.ofChange fnSumCmpAgreesWithSubtractionSpec)

/-- ITS FALSE NEIGHBOUR: 'it returns false'. Refute it at one input. -/
def fnSumCmpAgreesWithSubtractionWrong : ChangeSpec := { name := "fnSumCmpAgreesWithSubtraction", fn := fun _ => fun
  | [d1, d2, d3, d4] => { results := [.lit (.bool false)], args := [d1, d2, d3, d4] }
  | _ => none }
def FnSumCmpAgreesWithSubtractionWrongFalsely : Prop := fnSumCmpAgreesWithSubtractionRow.holds Try.pinned (OpenSpec.ofChange fnSumCmpAgreesWithSubtractionWrong)

/-- 'zzlaws_internal_engine_b1.FnSumCmpOrdersSuccessor': WHATEVER THE INPUT: true; the input reads as it did. -/
def fnSumCmpOrdersSuccessorSpec : ChangeSpec := { name := "fnSumCmpOrdersSuccessor", fn := fun _ => fun
  | [d1, d2] => { results := [.lit (.bool true)], args := [d1, d2] }
  | _ => none }
def fnSumCmpOrdersSuccessorRow : OpenClaim := { program := "qxb6608657a", sum := "4a723422de3e96fcd2ee6ca4fdfe5c6732a12bd4909ede527e99fc383201db6b", func := "example.com/sluice/sluice/zzlaws_internal_engine_b1.FnSumCmpOrdersSuccessor", spec := "fnSumCmpOrdersSuccessor", apart := false }
def FnSumCmpOrdersSuccessorSaid : Prop := fnSumCmpOrdersSuccessorRow.holds Try.pinned (OpenSpec.ofChange fnSumCmpOrdersSuccessorSpec)

/-- ITS FALSE NEIGHBOUR: 'it returns false'. Refute it at one input. -/
def fnSumCmpOrdersSuccessorWrong : ChangeSpec := { name := "fnSumCmpOrdersSuccessor", fn := fun _ => fun
  | [d1, d2] => { results := [.lit (.bool false)], args := [d1, d2] }
  | _ => none }
def FnSumCmpOrdersSuccessorWrongFalsely : Prop := fnSumCmpOrdersSuccessorRow.holds Try.pinned (OpenSpec.ofChange fnSumCmpOrdersSuccessorWrong)

/-- 'zzlaws_internal_engine_b1.FnSumAtMostAgreesWithCmp': WHATEVER THE INPUT: true; the input reads as it did. -/
def fnSumAtMostAgreesWithCmpSpec : ChangeSpec := { name := "fnSumAtMostAgreesWithCmp", fn := fun _ => fun
  | [d1, d2, d3] => { results := [.lit (.bool true)], args := [d1, d2, d3] }
  | _ => none }
def fnSumAtMostAgreesWithCmpRow : OpenClaim := { program := "qxb6608657a", sum := "4a723422de3e96fcd2ee6ca4fdfe5c6732a12bd4909ede527e99fc383201db6b", func := "example.com/sluice/sluice/zzlaws_internal_engine_b1.FnSumAtMostAgreesWithCmp", spec := "fnSumAtMostAgreesWithCmp", apart := false }
def FnSumAtMostAgreesWithCmpSaid : Prop := fnSumAtMostAgreesWithCmpRow.holds Try.pinned (OpenSpec.ofChange fnSumAtMostAgreesWithCmpSpec)

/-- ITS FALSE NEIGHBOUR: 'it returns false'. Refute it at one input. -/
def fnSumAtMostAgreesWithCmpWrong : ChangeSpec := { name := "fnSumAtMostAgreesWithCmp", fn := fun _ => fun
  | [d1, d2, d3] => { results := [.lit (.bool false)], args := [d1, d2, d3] }
  | _ => none }
def FnSumAtMostAgreesWithCmpWrongFalsely : Prop := fnSumAtMostAgreesWithCmpRow.holds Try.pinned (OpenSpec.ofChange fnSumAtMostAgreesWithCmpWrong)

/-- 'zzlaws_internal_engine_b1.FnSumAtMostOfTwoAmounts': WHATEVER THE INPUT: true; the input reads as it did. -/
def fnSumAtMostOfTwoAmountsSpec : ChangeSpec := { name := "fnSumAtMostOfTwoAmounts", fn := fun _ => fun
  | [d1, d2, d3] => { results := [.lit (.bool true)], args := [d1, d2, d3] }
  | _ => none }
def fnSumAtMostOfTwoAmountsRow : OpenClaim := { program := "qxb6608657a", sum := "4a723422de3e96fcd2ee6ca4fdfe5c6732a12bd4909ede527e99fc383201db6b", func := "example.com/sluice/sluice/zzlaws_internal_engine_b1.FnSumAtMostOfTwoAmounts", spec := "fnSumAtMostOfTwoAmounts", apart := false }
def FnSumAtMostOfTwoAmountsSaid : Prop := fnSumAtMostOfTwoAmountsRow.holds Try.pinned (OpenSpec.ofChange fnSumAtMostOfTwoAmountsSpec)

/-- ITS FALSE NEIGHBOUR: 'it returns false'. Refute it at one input. -/
def fnSumAtMostOfTwoAmountsWrong : ChangeSpec := { name := "fnSumAtMostOfTwoAmounts", fn := fun _ => fun
  | [d1, d2, d3] => { results := [.lit (.bool false)], args := [d1, d2, d3] }
  | _ => none }
def FnSumAtMostOfTwoAmountsWrongFalsely : Prop := fnSumAtMostOfTwoAmountsRow.holds Try.pinned (OpenSpec.ofChange fnSumAtMostOfTwoAmountsWrong)

/-- 'zzlaws_internal_engine_b1.FnLedgerInstantIsLeastAdmissible': WHATEVER THE INPUT: true; the input reads as it did. -/
def fnLedgerInstantIsLeastAdmissibleSpec : ChangeSpec := { name := "fnLedgerInstantIsLeastAdmissible", fn := fun _ => fun
  | [d1, d2, d3, d4] => { results := [.lit (.bool true)], args := [d1, d2, d3, d4] }
  | _ => none }
def fnLedgerInstantIsLeastAdmissibleRow : OpenClaim := { program := "qxb6608657a", sum := "4a723422de3e96fcd2ee6ca4fdfe5c6732a12bd4909ede527e99fc383201db6b", func := "example.com/sluice/sluice/zzlaws_internal_engine_b1.FnLedgerInstantIsLeastAdmissible", spec := "fnLedgerInstantIsLeastAdmissible", apart := false }
def FnLedgerInstantIsLeastAdmissibleSaid : Prop := fnLedgerInstantIsLeastAdmissibleRow.holds Try.pinned (OpenSpec.ofChange fnLedgerInstantIsLeastAdmissibleSpec)

/-- ITS FALSE NEIGHBOUR: 'it returns false'. Refute it at one input. -/
def fnLedgerInstantIsLeastAdmissibleWrong : ChangeSpec := { name := "fnLedgerInstantIsLeastAdmissible", fn := fun _ => fun
  | [d1, d2, d3, d4] => { results := [.lit (.bool false)], args := [d1, d2, d3, d4] }
  | _ => none }
def FnLedgerInstantIsLeastAdmissibleWrongFalsely : Prop := fnLedgerInstantIsLeastAdmissibleRow.holds Try.pinned (OpenSpec.ofChange fnLedgerInstantIsLeastAdmissibleWrong)

/-- 'zzlaws_internal_engine_b1.FnLedgerInstantJointDecision': WHATEVER THE INPUT: true; the input reads as it did. -/
def fnLedgerInstantJointDecisionSpec : ChangeSpec := { name := "fnLedgerInstantJointDecision", fn := fun _ => fun
  | [d1, d2, d3, d4, d5, d6, d7] => { results := [.lit (.bool true)], args := [d1, d2, d3, d4, d5, d6, d7] }
  | _ => none }
def fnLedgerInstantJointDecisionRow : OpenClaim := { program := "qxb6608657a", sum := "4a723422de3e96fcd2ee6ca4fdfe5c6732a12bd4909ede527e99fc383201db6b", func := "example.com/sluice/sluice/zzlaws_internal_engine_b1.FnLedgerInstantJointDecision", spec := "fnLedgerInstantJointDecision", apart := false }
def FnLedgerInstantJointDecisionSaid : Prop := fnLedgerInstantJointDecisionRow.holds Try.pinned (OpenSpec.ofChange fnLedgerInstantJointDecisionSpec)

/-- ITS FALSE NEIGHBOUR: 'it returns false'. Refute it at one input. -/
def fnLedgerInstantJointDecisionWrong : ChangeSpec := { name := "fnLedgerInstantJointDecision", fn := fun _ => fun
  | [d1, d2, d3, d4, d5, d6, d7] => { results := [.lit (.bool false)], args := [d1, d2, d3, d4, d5, d6, d7] }
  | _ => none }
def FnLedgerInstantJointDecisionWrongFalsely : Prop := fnLedgerInstantJointDecisionRow.holds Try.pinned (OpenSpec.ofChange fnLedgerInstantJointDecisionWrong)

/-- 'zzlaws_internal_engine_b1.FnLedgerLoweredThreshold': WHATEVER THE INPUT: true; the input reads as it did. -/
def fnLedgerLoweredThresholdSpec : ChangeSpec := { name := "fnLedgerLoweredThreshold", fn := fun _ => fun
  | [d1, d2, d3, d4, d5] => { results := [.lit (.bool true)], args := [d1, d2, d3, d4, d5] }
  | _ => none }
def fnLedgerLoweredThresholdRow : OpenClaim := { program := "qxb6608657a", sum := "4a723422de3e96fcd2ee6ca4fdfe5c6732a12bd4909ede527e99fc383201db6b", func := "example.com/sluice/sluice/zzlaws_internal_engine_b1.FnLedgerLoweredThreshold", spec := "fnLedgerLoweredThreshold", apart := false }
def FnLedgerLoweredThresholdSaid : Prop := fnLedgerLoweredThresholdRow.holds Try.pinned (OpenSpec.ofChange fnLedgerLoweredThresholdSpec)

/-- ITS FALSE NEIGHBOUR: 'it returns false'. Refute it at one input. -/
def fnLedgerLoweredThresholdWrong : ChangeSpec := { name := "fnLedgerLoweredThreshold", fn := fun _ => fun
  | [d1, d2, d3, d4, d5] => { results := [.lit (.bool false)], args := [d1, d2, d3, d4, d5] }
  | _ => none }
def FnLedgerLoweredThresholdWrongFalsely : Prop := fnLedgerLoweredThresholdRow.holds Try.pinned (OpenSpec.ofChange fnLedgerLoweredThresholdWrong)

end Rows
end Go.Proofs.Qxb6608657a
