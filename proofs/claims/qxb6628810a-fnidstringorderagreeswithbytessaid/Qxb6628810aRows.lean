/-
  No cell of these rows narrows 'for every input' (looked for: loops, veiled, ifaces, maps, wideKeys, modest, calm, conditions, laid).
  DERIVED. THE GIVEN ROWS OF THIS SEAT. 2 by the template 'for every input the law returns true; each argument reads behind the call as it read before'; 0 by the template 'total and deterministic' (their statements: Qxb6628810aTotals.lean).
  GIVEN WITH THE SEED: the statements are not yours to turn. If you find one false, say at which input.
  Laid BY PROGRAM, IN A SANDBOX (cutbox-rows.mjs): the forced cells as the released guide's own fill.sh prints them over the translation cb6528246144d109… (all of the seat's roots in one cut). By AI agents, Wed Nov 11 2026. No macro, syntax, notation, axiom, sorry.
-/
import Derived.Test.Qxb6628810aChecked
import GoSem.Claim
import GoSem.ClaimJoined
import GoSem.ClaimMapViews
import Derived.JoinedTies
import Derived.KernelRfl
namespace Go.Proofs.Qxb6628810a
/- THE CELL 'sum', in the pinned program and in every row, IS THE sha256 OF THE DUMP (.gsa) THAT Qxb6628810aProg.lean LOADS. Nothing in Lean hashes anything: it is a label: what it is worth is what the hold of that sum in a sandbox is worth. -/
noncomputable def Try.pinned : Pinned := { name := "qxb6628810a", sum := "cb6528246144d109f71dd542eafe44aa40916d29f4de2f522651beabfdc98bbc", checked := Try.checked }
namespace Rows
def none {H : Type} : Left H := { results := [], args := [] }

/-- 'zzlaws_event_b1.FnIDStringOrderAgreesWithBytes': WHATEVER THE INPUT: true; the input reads as it did. -/
def fnIDStringOrderAgreesWithBytesSpec : ChangeSpec := { name := "fnIDStringOrderAgreesWithBytes", fn := fun _ => fun
  | [d1, d2] => { results := [.lit (.bool true)], args := [d1, d2] }
  | _ => none }
def fnIDStringOrderAgreesWithBytesRow : OpenClaim := { program := "qxb6628810a", sum := "cb6528246144d109f71dd542eafe44aa40916d29f4de2f522651beabfdc98bbc", func := "example.com/postern/postern/zzlaws_event_b1.FnIDStringOrderAgreesWithBytes", spec := "fnIDStringOrderAgreesWithBytes", apart := false }
def FnIDStringOrderAgreesWithBytesSaid : Prop := fnIDStringOrderAgreesWithBytesRow.holds Try.pinned (OpenSpec.ofChange fnIDStringOrderAgreesWithBytesSpec)

/-- ITS FALSE NEIGHBOUR: 'it returns false'. Refute it at one input. -/
def fnIDStringOrderAgreesWithBytesWrong : ChangeSpec := { name := "fnIDStringOrderAgreesWithBytes", fn := fun _ => fun
  | [d1, d2] => { results := [.lit (.bool false)], args := [d1, d2] }
  | _ => none }
def FnIDStringOrderAgreesWithBytesWrongFalsely : Prop := fnIDStringOrderAgreesWithBytesRow.holds Try.pinned (OpenSpec.ofChange fnIDStringOrderAgreesWithBytesWrong)

/-- 'zzlaws_event_b1.FnIDStringOneByteChangesOnlyItsTwoDigits': WHATEVER THE INPUT: true; the input reads as it did. -/
def fnIDStringOneByteChangesOnlyItsTwoDigitsSpec : ChangeSpec := { name := "fnIDStringOneByteChangesOnlyItsTwoDigits", fn := fun _ => fun
  | [d1, d2, d3] => { results := [.lit (.bool true)], args := [d1, d2, d3] }
  | _ => none }
def fnIDStringOneByteChangesOnlyItsTwoDigitsRow : OpenClaim := { program := "qxb6628810a", sum := "cb6528246144d109f71dd542eafe44aa40916d29f4de2f522651beabfdc98bbc", func := "example.com/postern/postern/zzlaws_event_b1.FnIDStringOneByteChangesOnlyItsTwoDigits", spec := "fnIDStringOneByteChangesOnlyItsTwoDigits", apart := false }
def FnIDStringOneByteChangesOnlyItsTwoDigitsSaid : Prop := fnIDStringOneByteChangesOnlyItsTwoDigitsRow.holds Try.pinned (OpenSpec.ofChange fnIDStringOneByteChangesOnlyItsTwoDigitsSpec)

/-- ITS FALSE NEIGHBOUR: 'it returns false'. Refute it at one input. -/
def fnIDStringOneByteChangesOnlyItsTwoDigitsWrong : ChangeSpec := { name := "fnIDStringOneByteChangesOnlyItsTwoDigits", fn := fun _ => fun
  | [d1, d2, d3] => { results := [.lit (.bool false)], args := [d1, d2, d3] }
  | _ => none }
def FnIDStringOneByteChangesOnlyItsTwoDigitsWrongFalsely : Prop := fnIDStringOneByteChangesOnlyItsTwoDigitsRow.holds Try.pinned (OpenSpec.ofChange fnIDStringOneByteChangesOnlyItsTwoDigitsWrong)

end Rows
end Go.Proofs.Qxb6628810a
