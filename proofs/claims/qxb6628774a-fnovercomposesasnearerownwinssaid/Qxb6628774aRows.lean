/-
  No cell of these rows narrows 'for every input' (looked for: loops, veiled, ifaces, maps, wideKeys, modest, calm, conditions, laid).
  DERIVED. THE GIVEN ROWS OF THIS SEAT. 2 by the template 'for every input the law returns true; each argument reads behind the call as it read before'; 0 by the template 'total and deterministic' (their statements: Qxb6628774aTotals.lean).
  GIVEN WITH THE SEED: the statements are not yours to turn. If you find one false, say at which input.
  Laid BY PROGRAM, IN A SANDBOX (cutbox-rows.mjs): the forced cells as the released guide's own fill.sh prints them over the translation d13db86cbf561cf5… (all of the seat's roots in one cut). By AI agents, Wed Nov 11 2026. No macro, syntax, notation, axiom, sorry.
-/
import Derived.Test.Qxb6628774aChecked
import GoSem.Claim
import GoSem.ClaimJoined
import GoSem.ClaimMapViews
import Derived.JoinedTies
import Derived.KernelRfl
namespace Go.Proofs.Qxb6628774a
/- THE CELL 'sum', in the pinned program and in every row, IS THE sha256 OF THE DUMP (.gsa) THAT Qxb6628774aProg.lean LOADS. Nothing in Lean hashes anything: it is a label: what it is worth is what the hold of that sum in a sandbox is worth. -/
noncomputable def Try.pinned : Pinned := { name := "qxb6628774a", sum := "d13db86cbf561cf5138c673401a8a2c735c70a999971162ff8ec2baaeaf97846", checked := Try.checked }
namespace Rows
def none {H : Type} : Left H := { results := [], args := [] }

/-- 'zzlaws_internal_quota_b1.FnOverComposesAsNearerOwnWins': WHATEVER THE INPUT: true; the input reads as it did. -/
def fnOverComposesAsNearerOwnWinsSpec : ChangeSpec := { name := "fnOverComposesAsNearerOwnWins", fn := fun _ => fun
  | [d1, d2, d3, d4, d5, d6] => { results := [.lit (.bool true)], args := [d1, d2, d3, d4, d5, d6] }
  | _ => none }
def fnOverComposesAsNearerOwnWinsRow : OpenClaim := { program := "qxb6628774a", sum := "d13db86cbf561cf5138c673401a8a2c735c70a999971162ff8ec2baaeaf97846", func := "example.com/slated/slated/zzlaws_internal_quota_b1.FnOverComposesAsNearerOwnWins", spec := "fnOverComposesAsNearerOwnWins", apart := false }
def FnOverComposesAsNearerOwnWinsSaid : Prop := fnOverComposesAsNearerOwnWinsRow.holds Try.pinned (OpenSpec.ofChange fnOverComposesAsNearerOwnWinsSpec)

/-- ITS FALSE NEIGHBOUR: 'it returns false'. Refute it at one input. -/
def fnOverComposesAsNearerOwnWinsWrong : ChangeSpec := { name := "fnOverComposesAsNearerOwnWins", fn := fun _ => fun
  | [d1, d2, d3, d4, d5, d6] => { results := [.lit (.bool false)], args := [d1, d2, d3, d4, d5, d6] }
  | _ => none }
def FnOverComposesAsNearerOwnWinsWrongFalsely : Prop := fnOverComposesAsNearerOwnWinsRow.holds Try.pinned (OpenSpec.ofChange fnOverComposesAsNearerOwnWinsWrong)

/-- 'zzlaws_internal_quota_b1.FnOverIdempotentAndResultPins': WHATEVER THE INPUT: true; the input reads as it did. -/
def fnOverIdempotentAndResultPinsSpec : ChangeSpec := { name := "fnOverIdempotentAndResultPins", fn := fun _ => fun
  | [d1, d2, d3, d4, d5, d6] => { results := [.lit (.bool true)], args := [d1, d2, d3, d4, d5, d6] }
  | _ => none }
def fnOverIdempotentAndResultPinsRow : OpenClaim := { program := "qxb6628774a", sum := "d13db86cbf561cf5138c673401a8a2c735c70a999971162ff8ec2baaeaf97846", func := "example.com/slated/slated/zzlaws_internal_quota_b1.FnOverIdempotentAndResultPins", spec := "fnOverIdempotentAndResultPins", apart := false }
def FnOverIdempotentAndResultPinsSaid : Prop := fnOverIdempotentAndResultPinsRow.holds Try.pinned (OpenSpec.ofChange fnOverIdempotentAndResultPinsSpec)

/-- ITS FALSE NEIGHBOUR: 'it returns false'. Refute it at one input. -/
def fnOverIdempotentAndResultPinsWrong : ChangeSpec := { name := "fnOverIdempotentAndResultPins", fn := fun _ => fun
  | [d1, d2, d3, d4, d5, d6] => { results := [.lit (.bool false)], args := [d1, d2, d3, d4, d5, d6] }
  | _ => none }
def FnOverIdempotentAndResultPinsWrongFalsely : Prop := fnOverIdempotentAndResultPinsRow.holds Try.pinned (OpenSpec.ofChange fnOverIdempotentAndResultPinsWrong)

end Rows
end Go.Proofs.Qxb6628774a
