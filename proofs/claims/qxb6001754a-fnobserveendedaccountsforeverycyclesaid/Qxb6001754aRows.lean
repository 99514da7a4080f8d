/-
  No cell of these rows narrows 'for every input' (looked for: loops, veiled, ifaces, maps, wideKeys, modest, calm, conditions, laid).
  DERIVED. THE GIVEN ROWS OF THIS SEAT. 5 by the template 'for every input the law returns true; each argument reads behind the call as it read before'; 0 by the template 'total and deterministic' (their statements: Qxb6001754aTotals.lean).
  GIVEN WITH THE SEED: the statements are not yours to turn. If you find one false, say at which input.
  Laid BY PROGRAM, IN A SANDBOX (cutbox-rows.mjs): the forced cells as the released guide's own fill.sh prints them over the translation bfcac86a1a76150b… (all of the seat's roots in one cut). By AI agents, Wed Nov 11 2026. No macro, syntax, notation, axiom, sorry.
-/
import Derived.Test.Qxb6001754aChecked
import GoSem.Claim
import GoSem.ClaimJoined
import GoSem.ClaimMapViews
import Derived.JoinedTies
import Derived.KernelRfl
namespace Go.Proofs.Qxb6001754a
/- THE CELL 'sum', in the pinned program and in every row, IS THE sha256 OF THE DUMP (.gsa) THAT Qxb6001754aProg.lean LOADS. Nothing in Lean hashes anything: it is a label: what it is worth is what the hold of that sum in a sandbox is worth. -/
noncomputable def Try.pinned : Pinned := { name := "qxb6001754a", sum := "bfcac86a1a76150ba6a9ee6d0d4f8e72d32ded2deb077b83520602a1d912de96", checked := Try.checked }
namespace Rows
def none {H : Type} : Left H := { results := [], args := [] }

/-- 'zzlaws_internal_gcwatch_b1.FnObserveEndedAccountsForEveryCycle': WHATEVER THE INPUT: true; the input reads as it did. -/
def fnObserveEndedAccountsForEveryCycleSpec : ChangeSpec := { name := "fnObserveEndedAccountsForEveryCycle", fn := fun _ => fun
  | [d1, d2, d3, d4, d5, d6, d7] => { results := [.lit (.bool true)], args := [d1, d2, d3, d4, d5, d6, d7] }
  | _ => none }
def fnObserveEndedAccountsForEveryCycleRow : OpenClaim := { program := "qxb6001754a", sum := "bfcac86a1a76150ba6a9ee6d0d4f8e72d32ded2deb077b83520602a1d912de96", func := "example.com/hushheap/hushheap/zzlaws_internal_gcwatch_b1.FnObserveEndedAccountsForEveryCycle", spec := "fnObserveEndedAccountsForEveryCycle", apart := false }
def FnObserveEndedAccountsForEveryCycleSaid : Prop := fnObserveEndedAccountsForEveryCycleRow.holds Try.pinned (OpenSpec.ofChange fnObserveEndedAccountsForEveryCycleSpec)

/-- ITS FALSE NEIGHBOUR: 'it returns false'. Refute it at one input. -/
def fnObserveEndedAccountsForEveryCycleWrong : ChangeSpec := { name := "fnObserveEndedAccountsForEveryCycle", fn := fun _ => fun
  | [d1, d2, d3, d4, d5, d6, d7] => { results := [.lit (.bool false)], args := [d1, d2, d3, d4, d5, d6, d7] }
  | _ => none }
def FnObserveEndedAccountsForEveryCycleWrongFalsely : Prop := fnObserveEndedAccountsForEveryCycleRow.holds Try.pinned (OpenSpec.ofChange fnObserveEndedAccountsForEveryCycleWrong)

/-- 'zzlaws_internal_gcwatch_b1.FnObserveStartsAtMostOncePerCycle': WHATEVER THE INPUT: true; the input reads as it did. -/
def fnObserveStartsAtMostOncePerCycleSpec : ChangeSpec := { name := "fnObserveStartsAtMostOncePerCycle", fn := fun _ => fun
  | [d1, d2, d3, d4, d5, d6, d7] => { results := [.lit (.bool true)], args := [d1, d2, d3, d4, d5, d6, d7] }
  | _ => none }
def fnObserveStartsAtMostOncePerCycleRow : OpenClaim := { program := "qxb6001754a", sum := "bfcac86a1a76150ba6a9ee6d0d4f8e72d32ded2deb077b83520602a1d912de96", func := "example.com/hushheap/hushheap/zzlaws_internal_gcwatch_b1.FnObserveStartsAtMostOncePerCycle", spec := "fnObserveStartsAtMostOncePerCycle", apart := false }
def FnObserveStartsAtMostOncePerCycleSaid : Prop := fnObserveStartsAtMostOncePerCycleRow.holds Try.pinned (OpenSpec.ofChange fnObserveStartsAtMostOncePerCycleSpec)

/-- ITS FALSE NEIGHBOUR: 'it returns false'. Refute it at one input. -/
def fnObserveStartsAtMostOncePerCycleWrong : ChangeSpec := { name := "fnObserveStartsAtMostOncePerCycle", fn := fun _ => fun
  | [d1, d2, d3, d4, d5, d6, d7] => { results := [.lit (.bool false)], args := [d1, d2, d3, d4, d5, d6, d7] }
  | _ => none }
def FnObserveStartsAtMostOncePerCycleWrongFalsely : Prop := fnObserveStartsAtMostOncePerCycleRow.holds Try.pinned (OpenSpec.ofChange fnObserveStartsAtMostOncePerCycleWrong)

/-- 'zzlaws_internal_gcwatch_b1.FnObserveSinceBetweenLastEndAndPreviousSnapshot': WHATEVER THE INPUT: true; the input reads as it did. -/
def fnObserveSinceBetweenLastEndAndPreviousSnapshotSpec : ChangeSpec := { name := "fnObserveSinceBetweenLastEndAndPreviousSnapshot", fn := fun _ => fun
  | [d1, d2, d3, d4, d5, d6, d7] => { results := [.lit (.bool true)], args := [d1, d2, d3, d4, d5, d6, d7] }
  | _ => none }
def fnObserveSinceBetweenLastEndAndPreviousSnapshotRow : OpenClaim := { program := "qxb6001754a", sum := "bfcac86a1a76150ba6a9ee6d0d4f8e72d32ded2deb077b83520602a1d912de96", func := "example.com/hushheap/hushheap/zzlaws_internal_gcwatch_b1.FnObserveSinceBetweenLastEndAndPreviousSnapshot", spec := "fnObserveSinceBetweenLastEndAndPreviousSnapshot", apart := false }
def FnObserveSinceBetweenLastEndAndPreviousSnapshotSaid : Prop := fnObserveSinceBetweenLastEndAndPreviousSnapshotRow.holds Try.pinned (OpenSpec.ofChange fnObserveSinceBetweenLastEndAndPreviousSnapshotSpec)

/-- ITS FALSE NEIGHBOUR: 'it returns false'. Refute it at one input. -/
def fnObserveSinceBetweenLastEndAndPreviousSnapshotWrong : ChangeSpec := { name := "fnObserveSinceBetweenLastEndAndPreviousSnapshot", fn := fun _ => fun
  | [d1, d2, d3, d4, d5, d6, d7] => { results := [.lit (.bool false)], args := [d1, d2, d3, d4, d5, d6, d7] }
  | _ => none }
def FnObserveSinceBetweenLastEndAndPreviousSnapshotWrongFalsely : Prop := fnObserveSinceBetweenLastEndAndPreviousSnapshotRow.holds Try.pinned (OpenSpec.ofChange fnObserveSinceBetweenLastEndAndPreviousSnapshotWrong)

/-- 'zzlaws_internal_gcwatch_b1.FnIntervalMonotoneInLevel': WHATEVER THE INPUT: true; the input reads as it did. -/
def fnIntervalMonotoneInLevelSpec : ChangeSpec := { name := "fnIntervalMonotoneInLevel", fn := fun _ => fun
  | [d1, d2, d3, d4, d5, d6, d7] => { results := [.lit (.bool true)], args := [d1, d2, d3, d4, d5, d6, d7] }
  | _ => none }
def fnIntervalMonotoneInLevelRow : OpenClaim := { program := "qxb6001754a", sum := "bfcac86a1a76150ba6a9ee6d0d4f8e72d32ded2deb077b83520602a1d912de96", func := "example.com/hushheap/hushheap/zzlaws_internal_gcwatch_b1.FnIntervalMonotoneInLevel", spec := "fnIntervalMonotoneInLevel", apart := false }
def FnIntervalMonotoneInLevelSaid : Prop := fnIntervalMonotoneInLevelRow.holds Try.pinned (OpenSpec.ofChange fnIntervalMonotoneInLevelSpec)

/-- ITS FALSE NEIGHBOUR: 'it returns false'. Refute it at one input. -/
def fnIntervalMonotoneInLevelWrong : ChangeSpec := { name := "fnIntervalMonotoneInLevel", fn := fun _ => fun
  | [d1, d2, d3, d4, d5, d6, d7] => { results := [.lit (.bool false)], args := [d1, d2, d3, d4, d5, d6, d7] }
  | _ => none }
def FnIntervalMonotoneInLevelWrongFalsely : Prop := fnIntervalMonotoneInLevelRow.holds Try.pinned (OpenSpec.ofChange fnIntervalMonotoneInLevelWrong)

/-- 'zzlaws_internal_gcwatch_b1.FnIntervalAntitoneInAllocation': WHATEVER THE INPUT: true; the input reads as it did. -/
def fnIntervalAntitoneInAllocationSpec : ChangeSpec := { name := "fnIntervalAntitoneInAllocation", fn := fun _ => fun
  | [d1, d2, d3, d4, d5, d6, d7] => { results := [.lit (.bool true)], args := [d1, d2, d3, d4, d5, d6, d7] }
  | _ => none }
def fnIntervalAntitoneInAllocationRow : OpenClaim := { program := "qxb6001754a", sum := "bfcac86a1a76150ba6a9ee6d0d4f8e72d32ded2deb077b83520602a1d912de96", func := "example.com/hushheap/hushheap/zzlaws_internal_gcwatch_b1.FnIntervalAntitoneInAllocation", spec := "fnIntervalAntitoneInAllocation", apart := false }
def FnIntervalAntitoneInAllocationSaid : Prop := fnIntervalAntitoneInAllocationRow.holds Try.pinned (OpenSpec.ofChange fnIntervalAntitoneInAllocationSpec)

/-- ITS FALSE NEIGHBOUR: 'it returns false'. Refute it at one input. -/
def fnIntervalAntitoneInAllocationWrong : ChangeSpec := { name := "fnIntervalAntitoneInAllocation", fn := fun _ => fun
  | [d1, d2, d3, d4, d5, d6, d7] => { results := [.lit (.bool false)], args := [d1, d2, d3, d4, d5, d6, d7] }
  | _ => none }
def FnIntervalAntitoneInAllocationWrongFalsely : Prop := fnIntervalAntitoneInAllocationRow.holds Try.pinned (OpenSpec.ofChange fnIntervalAntitoneInAllocationWrong)

end Rows
end Go.Proofs.Qxb6001754a
