/-
  No cell of these rows narrows 'for every input' (looked for: loops, veiled, ifaces, maps, wideKeys, modest, calm, conditions, laid).
  DERIVED. THE GIVEN ROWS OF THIS SEAT. 7 by the template 'for every input the law returns true; each argument reads behind the call as it read before'; 0 by the template 'total and deterministic' (their statements: Qxb6602097aTotals.lean).
  GIVEN WITH THE SEED: the statements are not yours to turn. If you find one false, say at which input.
  Laid BY PROGRAM, IN A SANDBOX (cutbox-rows.mjs): the forced cells as the released guide's own fill.sh prints them over the translation d74e2baeeb6180ba… (all of the seat's roots in one cut). By AI agents, Wed Nov 11 2026. No macro, syntax, notation, axiom, sorry.
-/
import Derived.Test.Qxb6602097aChecked
import GoSem.Claim
import GoSem.ClaimJoined
import GoSem.ClaimMapViews
import Derived.JoinedTies
import Derived.KernelRfl
namespace Go.Proofs.Qxb6602097a
/- THE CELL 'sum', in the pinned program and in every row, IS THE sha256 OF THE DUMP (.gsa) THAT Qxb6602097aProg.lean LOADS. Nothing in Lean hashes anything: it is a label: what it is worth is what the hold of that sum in a sandbox is worth. -/
noncomputable def Try.pinned : Pinned := { name := "qxb6602097a", sum := "d74e2baeeb6180babc0dafb1e714aeb47a98faeec6aab0e3d4bd0f300e08cf94", checked := Try.checked }
namespace Rows
def none {H : Type} : Left H := { results := [], args := [] }

/-- 'zzlaws_gensupport_b1.FnScanModel': WHATEVER THE INPUT: true; the input reads as it did. -/
def fnScanModelSpec : ChangeSpec := { name := "fnScanModel", fn := fun _ => fun
  | [d1, d2] => { results := [.lit (.bool true)], args := [d1, d2] }
  | _ => none }
def fnScanModelRow : OpenClaim := { program := "qxb6602097a", sum := "d74e2baeeb6180babc0dafb1e714aeb47a98faeec6aab0e3d4bd0f300e08cf94", func := "example.com/endpoint-contract/endpoint-contract/zzlaws_gensupport_b1.FnScanModel", spec := "fnScanModel", recurses := true, apart := false }
def FnScanModelSaid : Prop := fnScanModelRow.holds Try.pinned (OpenSpec.ofChange fnScanModelSpec)

/-- ITS FALSE NEIGHBOUR: 'it returns false'. Refute it at one input. -/
def fnScanModelWrong : ChangeSpec := { name := "fnScanModel", fn := fun _ => fun
  | [d1, d2] => { results := [.lit (.bool false)], args := [d1, d2] }
  | _ => none }
def FnScanModelWrongFalsely : Prop := fnScanModelRow.holds Try.pinned (OpenSpec.ofChange fnScanModelWrong)

/-- 'zzlaws_gensupport_b1.FnScanOffsetAndSpace': WHATEVER THE INPUT: true; the input reads as it did. -/
def fnScanOffsetAndSpaceSpec : ChangeSpec := { name := "fnScanOffsetAndSpace", fn := fun _ => fun
  | [d1, d2] => { results := [.lit (.bool true)], args := [d1, d2] }
  | _ => none }
def fnScanOffsetAndSpaceRow : OpenClaim := { program := "qxb6602097a", sum := "d74e2baeeb6180babc0dafb1e714aeb47a98faeec6aab0e3d4bd0f300e08cf94", func := "example.com/endpoint-contract/endpoint-contract/zzlaws_gensupport_b1.FnScanOffsetAndSpace", spec := "fnScanOffsetAndSpace", apart := false }
def FnScanOffsetAndSpaceSaid : Prop := fnScanOffsetAndSpaceRow.holds Try.pinned (OpenSpec.ofChange fnScanOffsetAndSpaceSpec)

/-- ITS FALSE NEIGHBOUR: 'it returns false'. Refute it at one input. -/
def fnScanOffsetAndSpaceWrong : ChangeSpec := { name := "fnScanOffsetAndSpace", fn := fun _ => fun
  | [d1, d2] => { results := [.lit (.bool false)], args := [d1, d2] }
  | _ => none }
def FnScanOffsetAndSpaceWrongFalsely : Prop := fnScanOffsetAndSpaceRow.holds Try.pinned (OpenSpec.ofChange fnScanOffsetAndSpaceWrong)

/-- 'zzlaws_gensupport_b1.FnScanNesting': WHATEVER THE INPUT: true; the input reads as it did. -/
def fnScanNestingSpec : ChangeSpec := { name := "fnScanNesting", fn := fun _ => fun
  | [d] => { results := [.lit (.bool true)], args := [d] }
  | _ => none }
def fnScanNestingRow : OpenClaim := { program := "qxb6602097a", sum := "d74e2baeeb6180babc0dafb1e714aeb47a98faeec6aab0e3d4bd0f300e08cf94", func := "example.com/endpoint-contract/endpoint-contract/zzlaws_gensupport_b1.FnScanNesting", spec := "fnScanNesting", apart := false }
def FnScanNestingSaid : Prop := fnScanNestingRow.holds Try.pinned (OpenSpec.ofChange fnScanNestingSpec)

/-- ITS FALSE NEIGHBOUR: 'it returns false'. Refute it at one input. -/
def fnScanNestingWrong : ChangeSpec := { name := "fnScanNesting", fn := fun _ => fun
  | [d] => { results := [.lit (.bool false)], args := [d] }
  | _ => none }
def FnScanNestingWrongFalsely : Prop := fnScanNestingRow.holds Try.pinned (OpenSpec.ofChange fnScanNestingWrong)

/-- 'zzlaws_gensupport_b1.FnScanStringModel': WHATEVER THE INPUT: true; the input reads as it did. -/
def fnScanStringModelSpec : ChangeSpec := { name := "fnScanStringModel", fn := fun _ => fun
  | [d1, d2] => { results := [.lit (.bool true)], args := [d1, d2] }
  | _ => none }
def fnScanStringModelRow : OpenClaim := { program := "qxb6602097a", sum := "d74e2baeeb6180babc0dafb1e714aeb47a98faeec6aab0e3d4bd0f300e08cf94", func := "example.com/endpoint-contract/endpoint-contract/zzlaws_gensupport_b1.FnScanStringModel", spec := "fnScanStringModel", apart := false }
def FnScanStringModelSaid : Prop := fnScanStringModelRow.holds Try.pinned (OpenSpec.ofChange fnScanStringModelSpec)

/-- ITS FALSE NEIGHBOUR: 'it returns false'. Refute it at one input. -/
def fnScanStringModelWrong : ChangeSpec := { name := "fnScanStringModel", fn := fun _ => fun
  | [d1, d2] => { results := [.lit (.bool false)], args := [d1, d2] }
  | _ => none }
def FnScanStringModelWrongFalsely : Prop := fnScanStringModelRow.holds Try.pinned (OpenSpec.ofChange fnScanStringModelWrong)

/-- 'zzlaws_gensupport_b1.FnScanStringSelfDelimiting': WHATEVER THE INPUT: true; the input reads as it did. -/
def fnScanStringSelfDelimitingSpec : ChangeSpec := { name := "fnScanStringSelfDelimiting", fn := fun _ => fun
  | [d1, d2, d3, d4] => { results := [.lit (.bool true)], args := [d1, d2, d3, d4] }
  | _ => none }
def fnScanStringSelfDelimitingRow : OpenClaim := { program := "qxb6602097a", sum := "d74e2baeeb6180babc0dafb1e714aeb47a98faeec6aab0e3d4bd0f300e08cf94", func := "example.com/endpoint-contract/endpoint-contract/zzlaws_gensupport_b1.FnScanStringSelfDelimiting", spec := "fnScanStringSelfDelimiting", apart := false }
def FnScanStringSelfDelimitingSaid : Prop := fnScanStringSelfDelimitingRow.holds Try.pinned (OpenSpec.ofChange fnScanStringSelfDelimitingSpec)

/-- ITS FALSE NEIGHBOUR: 'it returns false'. Refute it at one input. -/
def fnScanStringSelfDelimitingWrong : ChangeSpec := { name := "fnScanStringSelfDelimiting", fn := fun _ => fun
  | [d1, d2, d3, d4] => { results := [.lit (.bool false)], args := [d1, d2, d3, d4] }
  | _ => none }
def FnScanStringSelfDelimitingWrongFalsely : Prop := fnScanStringSelfDelimitingRow.holds Try.pinned (OpenSpec.ofChange fnScanStringSelfDelimitingWrong)

/-- 'zzlaws_gensupport_b1.FnScanNumberModel': WHATEVER THE INPUT: true; the input reads as it did. -/
def fnScanNumberModelSpec : ChangeSpec := { name := "fnScanNumberModel", fn := fun _ => fun
  | [d1, d2] => { results := [.lit (.bool true)], args := [d1, d2] }
  | _ => none }
def fnScanNumberModelRow : OpenClaim := { program := "qxb6602097a", sum := "d74e2baeeb6180babc0dafb1e714aeb47a98faeec6aab0e3d4bd0f300e08cf94", func := "example.com/endpoint-contract/endpoint-contract/zzlaws_gensupport_b1.FnScanNumberModel", spec := "fnScanNumberModel", apart := false }
def FnScanNumberModelSaid : Prop := fnScanNumberModelRow.holds Try.pinned (OpenSpec.ofChange fnScanNumberModelSpec)

/-- ITS FALSE NEIGHBOUR: 'it returns false'. Refute it at one input. -/
def fnScanNumberModelWrong : ChangeSpec := { name := "fnScanNumberModel", fn := fun _ => fun
  | [d1, d2] => { results := [.lit (.bool false)], args := [d1, d2] }
  | _ => none }
def FnScanNumberModelWrongFalsely : Prop := fnScanNumberModelRow.holds Try.pinned (OpenSpec.ofChange fnScanNumberModelWrong)

/-- 'zzlaws_gensupport_b1.FnScanNumberCompleteAndShift': WHATEVER THE INPUT: true; the input reads as it did. -/
def fnScanNumberCompleteAndShiftSpec : ChangeSpec := { name := "fnScanNumberCompleteAndShift", fn := fun _ => fun
  | [d1, d2] => { results := [.lit (.bool true)], args := [d1, d2] }
  | _ => none }
def fnScanNumberCompleteAndShiftRow : OpenClaim := { program := "qxb6602097a", sum := "d74e2baeeb6180babc0dafb1e714aeb47a98faeec6aab0e3d4bd0f300e08cf94", func := "example.com/endpoint-contract/endpoint-contract/zzlaws_gensupport_b1.FnScanNumberCompleteAndShift", spec := "fnScanNumberCompleteAndShift", apart := false }
def FnScanNumberCompleteAndShiftSaid : Prop := fnScanNumberCompleteAndShiftRow.holds Try.pinned (OpenSpec.ofChange fnScanNumberCompleteAndShiftSpec)

/-- ITS FALSE NEIGHBOUR: 'it returns false'. Refute it at one input. -/
def fnScanNumberCompleteAndShiftWrong : ChangeSpec := { name := "fnScanNumberCompleteAndShift", fn := fun _ => fun
  | [d1, d2] => { results := [.lit (.bool false)], args := [d1, d2] }
  | _ => none }
def FnScanNumberCompleteAndShiftWrongFalsely : Prop := fnScanNumberCompleteAndShiftRow.holds Try.pinned (OpenSpec.ofChange fnScanNumberCompleteAndShiftWrong)

end Rows
end Go.Proofs.Qxb6602097a
