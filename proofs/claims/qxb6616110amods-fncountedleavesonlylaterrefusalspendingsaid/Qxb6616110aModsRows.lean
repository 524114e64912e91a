/-
  No cell of these rows narrows 'for every input' (looked for: loops, veiled, ifaces, maps, wideKeys, modest, calm, conditions, laid).
  DERIVED. THE GIVEN ROWS OF THIS SEAT. 6 by the template 'for every input the law returns true; each argument reads behind the call as it read before'; 0 by the template 'total and deterministic' (their statements: Qxb6616110aModsTotals.lean).
  GIVEN WITH THE SEED: the statements are not yours to turn. If you find one false, say at which input.
  Laid BY PROGRAM, IN A SANDBOX (cutbox-rows.mjs): the forced cells as the released guide's own fill.sh prints them over the translation d463370c9ce81bce… (all of the seat's roots in one cut). By AI agents, Wed Nov 11 2026. No macro, syntax, notation, axiom, sorry.
-/
import Derived.Test.Qxb6616110aModsChecked
import GoSem.Claim
import GoSem.ClaimJoined
import GoSem.ClaimMapViews
import Derived.JoinedTies
import Derived.KernelRfl
namespace Go.Proofs.Qxb6616110aMods
/- THE CELL 'sum', in the pinned program and in every row, IS THE sha256 OF THE DUMP (.gsa) THAT Qxb6616110aModsProg.lean LOADS. Nothing in Lean hashes anything: it is a label: what it is worth is what the hold of that sum in a sandbox is worth. -/
noncomputable def Trym.pinned : Pinned := { name := "qxb6616110amods", sum := "d463370c9ce81bce1a30b131e01f263490ce4b29b0a45009897e05e7fb660d9e", checked := Trym.checked }
namespace Rows
def none {H : Type} : Left H := { results := [], args := [] }

/-- 'zzlaws_relay_b1.FnCountBatchRefusalMovesTheRefusalOnce': WHATEVER THE INPUT: true; the input reads as it did. -/
def fnCountBatchRefusalMovesTheRefusalOnceSpec : ChangeSpec := { name := "fnCountBatchRefusalMovesTheRefusalOnce", fn := fun _ => fun
  | [d1, d2, d3] => { results := [.lit (.bool true)], args := [d1, d2, d3] }
  | _ => none }
def fnCountBatchRefusalMovesTheRefusalOnceRow : OpenClaim := { program := "qxb6616110amods", sum := "d463370c9ce81bce1a30b131e01f263490ce4b29b0a45009897e05e7fb660d9e", func := "example.com/outrelay/outrelay/zzlaws_relay_b1.FnCountBatchRefusalMovesTheRefusalOnce", spec := "fnCountBatchRefusalMovesTheRefusalOnce", make := .lifted ["publicsums"], apart := false }
def FnCountBatchRefusalMovesTheRefusalOnceSaid : Prop := fnCountBatchRefusalMovesTheRefusalOnceRow.holds Trym.pinned (OpenSpec.ofChange fnCountBatchRefusalMovesTheRefusalOnceSpec)

/-- ITS FALSE NEIGHBOUR: 'it returns false'. Refute it at one input. -/
def fnCountBatchRefusalMovesTheRefusalOnceWrong : ChangeSpec := { name := "fnCountBatchRefusalMovesTheRefusalOnce", fn := fun _ => fun
  | [d1, d2, d3] => { results := [.lit (.bool false)], args := [d1, d2, d3] }
  | _ => none }
def FnCountBatchRefusalMovesTheRefusalOnceWrongFalsely : Prop := fnCountBatchRefusalMovesTheRefusalOnceRow.holds Trym.pinned (OpenSpec.ofChange fnCountBatchRefusalMovesTheRefusalOnceWrong)

/-- 'zzlaws_relay_b1.FnCountedLeavesOnlyLaterRefusalsPending': WHATEVER THE INPUT: true; the input reads as it did. -/
def fnCountedLeavesOnlyLaterRefusalsPendingSpec : ChangeSpec := { name := "fnCountedLeavesOnlyLaterRefusalsPending", fn := fun _ => fun
  | [d1, d2, d3, d4] => { results := [.lit (.bool true)], args := [d1, d2, d3, d4] }
  | _ => none }
def fnCountedLeavesOnlyLaterRefusalsPendingRow : OpenClaim := { program := "qxb6616110amods", sum := "d463370c9ce81bce1a30b131e01f263490ce4b29b0a45009897e05e7fb660d9e", func := "example.com/outrelay/outrelay/zzlaws_relay_b1.FnCountedLeavesOnlyLaterRefusalsPending", spec := "fnCountedLeavesOnlyLaterRefusalsPending", make := .lifted ["publicsums"], apart := false }
def FnCountedLeavesOnlyLaterRefusalsPendingSaid : Prop := fnCountedLeavesOnlyLaterRefusalsPendingRow.holds Trym.pinned (OpenSpec.ofChange fnCountedLeavesOnlyLaterRefusalsPendingSpec)

/-- ITS FALSE NEIGHBOUR: 'it returns false'. Refute it at one input. -/
def fnCountedLeavesOnlyLaterRefusalsPendingWrong : ChangeSpec := { name := "fnCountedLeavesOnlyLaterRefusalsPending", fn := fun _ => fun
  | [d1, d2, d3, d4] => { results := [.lit (.bool false)], args := [d1, d2, d3, d4] }
  | _ => none }
def FnCountedLeavesOnlyLaterRefusalsPendingWrongFalsely : Prop := fnCountedLeavesOnlyLaterRefusalsPendingRow.holds Trym.pinned (OpenSpec.ofChange fnCountedLeavesOnlyLaterRefusalsPendingWrong)

/-- 'zzlaws_relay_b1.FnLeftOutIsHeldLessSettled': WHATEVER THE INPUT: true; the input reads as it did. -/
def fnLeftOutIsHeldLessSettledSpec : ChangeSpec := { name := "fnLeftOutIsHeldLessSettled", fn := fun _ => fun
  | [d1, d2] => { results := [.lit (.bool true)], args := [d1, d2] }
  | _ => none }
def fnLeftOutIsHeldLessSettledRow : OpenClaim := { program := "qxb6616110amods", sum := "d463370c9ce81bce1a30b131e01f263490ce4b29b0a45009897e05e7fb660d9e", func := "example.com/outrelay/outrelay/zzlaws_relay_b1.FnLeftOutIsHeldLessSettled", spec := "fnLeftOutIsHeldLessSettled", make := .lifted ["publicsums"], apart := false }
def FnLeftOutIsHeldLessSettledSaid : Prop := fnLeftOutIsHeldLessSettledRow.holds Trym.pinned (OpenSpec.ofChange fnLeftOutIsHeldLessSettledSpec)

/-- ITS FALSE NEIGHBOUR: 'it returns false'. Refute it at one input. -/
def fnLeftOutIsHeldLessSettledWrong : ChangeSpec := { name := "fnLeftOutIsHeldLessSettled", fn := fun _ => fun
  | [d1, d2] => { results := [.lit (.bool false)], args := [d1, d2] }
  | _ => none }
def FnLeftOutIsHeldLessSettledWrongFalsely : Prop := fnLeftOutIsHeldLessSettledRow.holds Trym.pinned (OpenSpec.ofChange fnLeftOutIsHeldLessSettledWrong)

/-- 'zzlaws_relay_b1.FnLeftOutOfJoinedSettledIsTheCommonPart': WHATEVER THE INPUT: true; the input reads as it did. -/
def fnLeftOutOfJoinedSettledIsTheCommonPartSpec : ChangeSpec := { name := "fnLeftOutOfJoinedSettledIsTheCommonPart", fn := fun _ => fun
  | [d1, d2, d3] => { results := [.lit (.bool true)], args := [d1, d2, d3] }
  | _ => none }
def fnLeftOutOfJoinedSettledIsTheCommonPartRow : OpenClaim := { program := "qxb6616110amods", sum := "d463370c9ce81bce1a30b131e01f263490ce4b29b0a45009897e05e7fb660d9e", func := "example.com/outrelay/outrelay/zzlaws_relay_b1.FnLeftOutOfJoinedSettledIsTheCommonPart", spec := "fnLeftOutOfJoinedSettledIsTheCommonPart", make := .lifted ["publicsums"], apart := false }
def FnLeftOutOfJoinedSettledIsTheCommonPartSaid : Prop := fnLeftOutOfJoinedSettledIsTheCommonPartRow.holds Trym.pinned (OpenSpec.ofChange fnLeftOutOfJoinedSettledIsTheCommonPartSpec)

/-- ITS FALSE NEIGHBOUR: 'it returns false'. Refute it at one input. -/
def fnLeftOutOfJoinedSettledIsTheCommonPartWrong : ChangeSpec := { name := "fnLeftOutOfJoinedSettledIsTheCommonPart", fn := fun _ => fun
  | [d1, d2, d3] => { results := [.lit (.bool false)], args := [d1, d2, d3] }
  | _ => none }
def FnLeftOutOfJoinedSettledIsTheCommonPartWrongFalsely : Prop := fnLeftOutOfJoinedSettledIsTheCommonPartRow.holds Trym.pinned (OpenSpec.ofChange fnLeftOutOfJoinedSettledIsTheCommonPartWrong)

/-- 'zzlaws_relay_b1.FnQuietLimitIsTheLeastCoverAndTakesTheGreater': WHATEVER THE INPUT: true; the input reads as it did. -/
def fnQuietLimitIsTheLeastCoverAndTakesTheGreaterSpec : ChangeSpec := { name := "fnQuietLimitIsTheLeastCoverAndTakesTheGreater", fn := fun _ => fun
  | [d1, d2] => { results := [.lit (.bool true)], args := [d1, d2] }
  | _ => none }
def fnQuietLimitIsTheLeastCoverAndTakesTheGreaterRow : OpenClaim := { program := "qxb6616110amods", sum := "d463370c9ce81bce1a30b131e01f263490ce4b29b0a45009897e05e7fb660d9e", func := "example.com/outrelay/outrelay/zzlaws_relay_b1.FnQuietLimitIsTheLeastCoverAndTakesTheGreater", spec := "fnQuietLimitIsTheLeastCoverAndTakesTheGreater", make := .lifted ["publicsums"], apart := false }
def FnQuietLimitIsTheLeastCoverAndTakesTheGreaterSaid : Prop := fnQuietLimitIsTheLeastCoverAndTakesTheGreaterRow.holds Trym.pinned (OpenSpec.ofChange fnQuietLimitIsTheLeastCoverAndTakesTheGreaterSpec)

/-- ITS FALSE NEIGHBOUR: 'it returns false'. Refute it at one input. -/
def fnQuietLimitIsTheLeastCoverAndTakesTheGreaterWrong : ChangeSpec := { name := "fnQuietLimitIsTheLeastCoverAndTakesTheGreater", fn := fun _ => fun
  | [d1, d2] => { results := [.lit (.bool false)], args := [d1, d2] }
  | _ => none }
def FnQuietLimitIsTheLeastCoverAndTakesTheGreaterWrongFalsely : Prop := fnQuietLimitIsTheLeastCoverAndTakesTheGreaterRow.holds Trym.pinned (OpenSpec.ofChange fnQuietLimitIsTheLeastCoverAndTakesTheGreaterWrong)

/-- 'zzlaws_relay_b1.FnQuietLimitGrowsOnlyPastShareTimeout': WHATEVER THE INPUT: true; the input reads as it did. -/
def fnQuietLimitGrowsOnlyPastShareTimeoutSpec : ChangeSpec := { name := "fnQuietLimitGrowsOnlyPastShareTimeout", fn := fun _ => fun
  | [d1, d2] => { results := [.lit (.bool true)], args := [d1, d2] }
  | _ => none }
def fnQuietLimitGrowsOnlyPastShareTimeoutRow : OpenClaim := { program := "qxb6616110amods", sum := "d463370c9ce81bce1a30b131e01f263490ce4b29b0a45009897e05e7fb660d9e", func := "example.com/outrelay/outrelay/zzlaws_relay_b1.FnQuietLimitGrowsOnlyPastShareTimeout", spec := "fnQuietLimitGrowsOnlyPastShareTimeout", make := .lifted ["publicsums"], apart := false }
def FnQuietLimitGrowsOnlyPastShareTimeoutSaid : Prop := fnQuietLimitGrowsOnlyPastShareTimeoutRow.holds Trym.pinned (OpenSpec.ofChange fnQuietLimitGrowsOnlyPastShareTimeoutSpec)

/-- ITS FALSE NEIGHBOUR: 'it returns false'. Refute it at one input. -/
def fnQuietLimitGrowsOnlyPastShareTimeoutWrong : ChangeSpec := { name := "fnQuietLimitGrowsOnlyPastShareTimeout", fn := fun _ => fun
  | [d1, d2] => { results := [.lit (.bool false)], args := [d1, d2] }
  | _ => none }
def FnQuietLimitGrowsOnlyPastShareTimeoutWrongFalsely : Prop := fnQuietLimitGrowsOnlyPastShareTimeoutRow.holds Trym.pinned (OpenSpec.ofChange fnQuietLimitGrowsOnlyPastShareTimeoutWrong)

end Rows
end Go.Proofs.Qxb6616110aMods
