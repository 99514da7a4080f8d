/-
  No cell of these rows narrows 'for every input' (looked for: loops, veiled, ifaces, maps, wideKeys, modest, calm, conditions, laid).
  DERIVED. THE GIVEN ROWS OF THIS SEAT. 1 by the template 'for every input the law returns true; each argument reads behind the call as it read before'; 0 by the template 'total and deterministic' (their statements: Qxb6600287aTotals.lean).
  GIVEN WITH THE SEED: the statements are not yours to turn. If you find one false, say at which input.
  Laid BY PROGRAM, IN A SANDBOX (cutbox-rows.mjs): the forced cells as the released guide's own fill.sh prints them over the translation f7aba7e825e40fbd… (all of the seat's roots in one cut). By AI agents, Wed Nov 11 2026. No macro, syntax, notation, axiom, sorry.
-/
import Derived.Test.Qxb6600287aChecked
import GoSem.Claim
import GoSem.ClaimJoined
import GoSem.ClaimMapViews
import Derived.JoinedTies
import Derived.KernelRfl
namespace Go.Proofs.Qxb6600287a
/- THE CELL 'sum', in the pinned program and in every row, IS THE sha256 OF THE DUMP (.gsa) THAT Qxb6600287aProg.lean LOADS. Nothing in Lean hashes anything: it is a label: what it is worth is what the hold of that sum in a sandbox is worth. -/
noncomputable def Try.pinned : Pinned := { name := "qxb6600287a", sum := "f7aba7e825e40fbd7afc79b13414a3cf1ef31ca829e529ff5e2a4b10d4651c5f", checked := Try.checked }
namespace Rows
def none {H : Type} : Left H := { results := [], args := [] }

/-- 'zzlaws_root_b1.FnCertTypesDataRoundTrip': WHATEVER THE INPUT: true; the input reads as it did. -/
def fnCertTypesDataRoundTripSpec : ChangeSpec := { name := "fnCertTypesDataRoundTrip", fn := fun _ => fun
  | [d] => { results := [.lit (.bool true)], args := [d] }
  | _ => none }
def fnCertTypesDataRoundTripRow : OpenClaim := { program := "qxb6600287a", sum := "f7aba7e825e40fbd7afc79b13414a3cf1ef31ca829e529ff5e2a4b10d4651c5f", func := "example.com/halyard/halyard/zzlaws_root_b1.FnCertTypesDataRoundTrip", spec := "fnCertTypesDataRoundTrip", apart := false }
def FnCertTypesDataRoundTripSaid : Prop := fnCertTypesDataRoundTripRow.holds Try.pinned (OpenSpec.ofChange fnCertTypesDataRoundTripSpec)

/-- ITS FALSE NEIGHBOUR: 'it returns false'. Refute it at one input. -/
def fnCertTypesDataRoundTripWrong : ChangeSpec := { name := "fnCertTypesDataRoundTrip", fn := fun _ => fun
  | [d] => { results := [.lit (.bool false)], args := [d] }
  | _ => none }
def FnCertTypesDataRoundTripWrongFalsely : Prop := fnCertTypesDataRoundTripRow.holds Try.pinned (OpenSpec.ofChange fnCertTypesDataRoundTripWrong)

end Rows
end Go.Proofs.Qxb6600287a
