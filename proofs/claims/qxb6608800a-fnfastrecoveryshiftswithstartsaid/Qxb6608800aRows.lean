/-
  No cell of these rows narrows 'for every input' (looked for: loops, veiled, ifaces, maps, wideKeys, modest, calm, conditions, laid).
  DERIVED. THE GIVEN ROWS OF THIS SEAT. 5 by the template 'for every input the law returns true; each argument reads behind the call as it read before'; 0 by the template 'total and deterministic' (their statements: Qxb6608800aTotals.lean).
  GIVEN WITH THE SEED: the statements are not yours to turn. If you find one false, say at which input.
  Laid BY PROGRAM, IN A SANDBOX (cutbox-rows.mjs): the forced cells as the released guide's own fill.sh prints them over the translation 91e16e3d3666fe19… (all of the seat's roots in one cut). By AI agents, Wed Nov 11 2026. No macro, syntax, notation, axiom, sorry.
-/
import Derived.Test.Qxb6608800aChecked
import GoSem.Claim
import GoSem.ClaimJoined
import GoSem.ClaimMapViews
import Derived.JoinedTies
import Derived.KernelRfl
namespace Go.Proofs.Qxb6608800a
/- THE CELL 'sum', in the pinned program and in every row, IS THE sha256 OF THE DUMP (.gsa) THAT Qxb6608800aProg.lean LOADS. Nothing in Lean hashes anything: it is a label: what it is worth is what the hold of that sum in a sandbox is worth. -/
noncomputable def Try.pinned : Pinned := { name := "qxb6608800a", sum := "91e16e3d3666fe198b5dcc26dc249c3fa2fd0fe92c3eae8f2792b2f947eec58d", checked := Try.checked }
namespace Rows
def none {H : Type} : Left H := { results := [], args := [] }

/-- 'zzlaws_agreement_b1.FnReachesFirstCrossingOnly': WHATEVER THE INPUT: true; the input reads as it did. -/
def fnReachesFirstCrossingOnlySpec : ChangeSpec := { name := "fnReachesFirstCrossingOnly", fn := fun _ => fun
  | [d1, d2, d3, d4, d5] => { results := [.lit (.bool true)], args := [d1, d2, d3, d4, d5] }
  | _ => none }
def fnReachesFirstCrossingOnlyRow : OpenClaim := { program := "qxb6608800a", sum := "91e16e3d3666fe198b5dcc26dc249c3fa2fd0fe92c3eae8f2792b2f947eec58d", func := "example.com/sortilege/sortilege/zzlaws_agreement_b1.FnReachesFirstCrossingOnly", spec := "fnReachesFirstCrossingOnly", apart := false }
def FnReachesFirstCrossingOnlySaid : Prop := fnReachesFirstCrossingOnlyRow.holds Try.pinned (OpenSpec.ofChange fnReachesFirstCrossingOnlySpec)

/-- ITS FALSE NEIGHBOUR: 'it returns false'. Refute it at one input. -/
def fnReachesFirstCrossingOnlyWrong : ChangeSpec := { name := "fnReachesFirstCrossingOnly", fn := fun _ => fun
  | [d1, d2, d3, d4, d5] => { results := [.lit (.bool false)], args := [d1, d2, d3, d4, d5] }
  | _ => none }
def FnReachesFirstCrossingOnlyWrongFalsely : Prop := fnReachesFirstCrossingOnlyRow.holds Try.pinned (OpenSpec.ofChange fnReachesFirstCrossingOnlyWrong)

/-- 'zzlaws_agreement_b1.FnReachesSplitAddition': WHATEVER THE INPUT: true; the input reads as it did. -/
def fnReachesSplitAdditionSpec : ChangeSpec := { name := "fnReachesSplitAddition", fn := fun _ => fun
  | [d1, d2, d3, d4, d5] => { results := [.lit (.bool true)], args := [d1, d2, d3, d4, d5] }
  | _ => none }
def fnReachesSplitAdditionRow : OpenClaim := { program := "qxb6608800a", sum := "91e16e3d3666fe198b5dcc26dc249c3fa2fd0fe92c3eae8f2792b2f947eec58d", func := "example.com/sortilege/sortilege/zzlaws_agreement_b1.FnReachesSplitAddition", spec := "fnReachesSplitAddition", apart := false }
def FnReachesSplitAdditionSaid : Prop := fnReachesSplitAdditionRow.holds Try.pinned (OpenSpec.ofChange fnReachesSplitAdditionSpec)

/-- ITS FALSE NEIGHBOUR: 'it returns false'. Refute it at one input. -/
def fnReachesSplitAdditionWrong : ChangeSpec := { name := "fnReachesSplitAddition", fn := fun _ => fun
  | [d1, d2, d3, d4, d5] => { results := [.lit (.bool false)], args := [d1, d2, d3, d4, d5] }
  | _ => none }
def FnReachesSplitAdditionWrongFalsely : Prop := fnReachesSplitAdditionRow.holds Try.pinned (OpenSpec.ofChange fnReachesSplitAdditionWrong)

/-- 'zzlaws_agreement_b1.FnEmptyRefusedOnceAVoteIsIn': WHATEVER THE INPUT: true; the input reads as it did. -/
def fnEmptyRefusedOnceAVoteIsInSpec : ChangeSpec := { name := "fnEmptyRefusedOnceAVoteIsIn", fn := fun _ => fun
  | [d1, d2, d3, d4, d5, d6, d7, d8, d9] => { results := [.lit (.bool true)], args := [d1, d2, d3, d4, d5, d6, d7, d8, d9] }
  | _ => none }
def fnEmptyRefusedOnceAVoteIsInRow : OpenClaim := { program := "qxb6608800a", sum := "91e16e3d3666fe198b5dcc26dc249c3fa2fd0fe92c3eae8f2792b2f947eec58d", func := "example.com/sortilege/sortilege/zzlaws_agreement_b1.FnEmptyRefusedOnceAVoteIsIn", spec := "fnEmptyRefusedOnceAVoteIsIn", apart := false }
def FnEmptyRefusedOnceAVoteIsInSaid : Prop := fnEmptyRefusedOnceAVoteIsInRow.holds Try.pinned (OpenSpec.ofChange fnEmptyRefusedOnceAVoteIsInSpec)

/-- ITS FALSE NEIGHBOUR: 'it returns false'. Refute it at one input. -/
def fnEmptyRefusedOnceAVoteIsInWrong : ChangeSpec := { name := "fnEmptyRefusedOnceAVoteIsIn", fn := fun _ => fun
  | [d1, d2, d3, d4, d5, d6, d7, d8, d9] => { results := [.lit (.bool false)], args := [d1, d2, d3, d4, d5, d6, d7, d8, d9] }
  | _ => none }
def FnEmptyRefusedOnceAVoteIsInWrongFalsely : Prop := fnEmptyRefusedOnceAVoteIsInRow.holds Try.pinned (OpenSpec.ofChange fnEmptyRefusedOnceAVoteIsInWrong)

/-- 'zzlaws_agreement_b1.FnFastRecoveryWindowAndNextStep': WHATEVER THE INPUT: true; the input reads as it did. -/
def fnFastRecoveryWindowAndNextStepSpec : ChangeSpec := { name := "fnFastRecoveryWindowAndNextStep", fn := fun _ => fun
  | [d1, d2, d3, d4] => { results := [.lit (.bool true)], args := [d1, d2, d3, d4] }
  | _ => none }
def fnFastRecoveryWindowAndNextStepRow : OpenClaim := { program := "qxb6608800a", sum := "91e16e3d3666fe198b5dcc26dc249c3fa2fd0fe92c3eae8f2792b2f947eec58d", func := "example.com/sortilege/sortilege/zzlaws_agreement_b1.FnFastRecoveryWindowAndNextStep", spec := "fnFastRecoveryWindowAndNextStep", unfollowed := true, recurses := true, apart := false }
def FnFastRecoveryWindowAndNextStepSaid : Prop := fnFastRecoveryWindowAndNextStepRow.holds Try.pinned (OpenSpec.ofChange fnFastRecoveryWindowAndNextStepSpec)

/-- ITS FALSE NEIGHBOUR: 'it returns false'. Refute it at one input. -/
def fnFastRecoveryWindowAndNextStepWrong : ChangeSpec := { name := "fnFastRecoveryWindowAndNextStep", fn := fun _ => fun
  | [d1, d2, d3, d4] => { results := [.lit (.bool false)], args := [d1, d2, d3, d4] }
  | _ => none }
def FnFastRecoveryWindowAndNextStepWrongFalsely : Prop := fnFastRecoveryWindowAndNextStepRow.holds Try.pinned (OpenSpec.ofChange fnFastRecoveryWindowAndNextStepWrong)

/-- 'zzlaws_agreement_b1.FnFastRecoveryShiftsWithStart': WHATEVER THE INPUT: true; the input reads as it did. -/
def fnFastRecoveryShiftsWithStartSpec : ChangeSpec := { name := "fnFastRecoveryShiftsWithStart", fn := fun _ => fun
  | [d1, d2, d3, d4, d5] => { results := [.lit (.bool true)], args := [d1, d2, d3, d4, d5] }
  | _ => none }
def fnFastRecoveryShiftsWithStartRow : OpenClaim := { program := "qxb6608800a", sum := "91e16e3d3666fe198b5dcc26dc249c3fa2fd0fe92c3eae8f2792b2f947eec58d", func := "example.com/sortilege/sortilege/zzlaws_agreement_b1.FnFastRecoveryShiftsWithStart", spec := "fnFastRecoveryShiftsWithStart", unfollowed := true, recurses := true, apart := false }
def FnFastRecoveryShiftsWithStartSaid : Prop := fnFastRecoveryShiftsWithStartRow.holds Try.pinned (OpenSpec.ofChange fnFastRecoveryShiftsWithStartSpec)

/-- ITS FALSE NEIGHBOUR: 'it returns false'. Refute it at one input. -/
def fnFastRecoveryShiftsWithStartWrong : ChangeSpec := { name := "fnFastRecoveryShiftsWithStart", fn := fun _ => fun
  | [d1, d2, d3, d4, d5] => { results := [.lit (.bool false)], args := [d1, d2, d3, d4, d5] }
  | _ => none }
def FnFastRecoveryShiftsWithStartWrongFalsely : Prop := fnFastRecoveryShiftsWithStartRow.holds Try.pinned (OpenSpec.ofChange fnFastRecoveryShiftsWithStartWrong)

end Rows
end Go.Proofs.Qxb6608800a
