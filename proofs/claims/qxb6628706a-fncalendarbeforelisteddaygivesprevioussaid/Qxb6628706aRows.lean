/-
  No cell of these rows narrows 'for every input' (looked for: loops, veiled, ifaces, maps, wideKeys, modest, calm, conditions, laid).
  DERIVED. THE GIVEN ROWS OF THIS SEAT. 2 by the template 'for every input the law returns true; each argument reads behind the call as it read before'; 0 by the template 'total and deterministic' (their statements: Qxb6628706aTotals.lean).
  GIVEN WITH THE SEED: the statements are not yours to turn. If you find one false, say at which input.
  Laid BY PROGRAM, IN A SANDBOX (cutbox-rows.mjs): the forced cells as the released guide's own fill.sh prints them over the translation 4128ea308e826c99… (all of the seat's roots in one cut). By AI agents, Wed Nov 11 2026. No macro, syntax, notation, axiom, sorry.
-/
import Derived.Test.Qxb6628706aChecked
import GoSem.Claim
import GoSem.ClaimJoined
import GoSem.ClaimMapViews
import Derived.JoinedTies
import Derived.KernelRfl
namespace Go.Proofs.Qxb6628706a
/- THE CELL 'sum', in the pinned program and in every row, IS THE sha256 OF THE DUMP (.gsa) THAT Qxb6628706aProg.lean LOADS. Nothing in Lean hashes anything: it is a label: what it is worth is what the hold of that sum in a sandbox is worth. -/
noncomputable def Try.pinned : Pinned := { name := "qxb6628706a", sum := "4128ea308e826c998d76a2e961ec1ee50e860725351082bc76cbf7622d91a511", checked := Try.checked }
namespace Rows
def none {H : Type} : Left H := { results := [], args := [] }

/-- 'zzlaws_calendar_b1.FnCalendarBeforeGreatestEarlierDay': WHATEVER THE INPUT: true; the input reads as it did. -/
def fnCalendarBeforeGreatestEarlierDaySpec : ChangeSpec := { name := "fnCalendarBeforeGreatestEarlierDay", fn := fun _ => fun
  | [d1, d2, d3] => { results := [.lit (.bool true)], args := [d1, d2, d3] }
  | _ => none }
def fnCalendarBeforeGreatestEarlierDayRow : OpenClaim := { program := "qxb6628706a", sum := "4128ea308e826c998d76a2e961ec1ee50e860725351082bc76cbf7622d91a511", func := "example.com/vestline/vestline/zzlaws_calendar_b1.FnCalendarBeforeGreatestEarlierDay", spec := "fnCalendarBeforeGreatestEarlierDay", apart := false }
def FnCalendarBeforeGreatestEarlierDaySaid : Prop := fnCalendarBeforeGreatestEarlierDayRow.holds Try.pinned (OpenSpec.ofChange fnCalendarBeforeGreatestEarlierDaySpec)

/-- ITS FALSE NEIGHBOUR: 'it returns false'. Refute it at one input. -/
def fnCalendarBeforeGreatestEarlierDayWrong : ChangeSpec := { name := "fnCalendarBeforeGreatestEarlierDay", fn := fun _ => fun
  | [d1, d2, d3] => { results := [.lit (.bool false)], args := [d1, d2, d3] }
  | _ => none }
def FnCalendarBeforeGreatestEarlierDayWrongFalsely : Prop := fnCalendarBeforeGreatestEarlierDayRow.holds Try.pinned (OpenSpec.ofChange fnCalendarBeforeGreatestEarlierDayWrong)

/-- 'zzlaws_calendar_b1.FnCalendarBeforeListedDayGivesPrevious': WHATEVER THE INPUT: true; the input reads as it did. -/
def fnCalendarBeforeListedDayGivesPreviousSpec : ChangeSpec := { name := "fnCalendarBeforeListedDayGivesPrevious", fn := fun _ => fun
  | [d1, d2] => { results := [.lit (.bool true)], args := [d1, d2] }
  | _ => none }
def fnCalendarBeforeListedDayGivesPreviousRow : OpenClaim := { program := "qxb6628706a", sum := "4128ea308e826c998d76a2e961ec1ee50e860725351082bc76cbf7622d91a511", func := "example.com/vestline/vestline/zzlaws_calendar_b1.FnCalendarBeforeListedDayGivesPrevious", spec := "fnCalendarBeforeListedDayGivesPrevious", apart := false }
def FnCalendarBeforeListedDayGivesPreviousSaid : Prop := fnCalendarBeforeListedDayGivesPreviousRow.holds Try.pinned (OpenSpec.ofChange fnCalendarBeforeListedDayGivesPreviousSpec)

/-- ITS FALSE NEIGHBOUR: 'it returns false'. Refute it at one input. -/
def fnCalendarBeforeListedDayGivesPreviousWrong : ChangeSpec := { name := "fnCalendarBeforeListedDayGivesPrevious", fn := fun _ => fun
  | [d1, d2] => { results := [.lit (.bool false)], args := [d1, d2] }
  | _ => none }
def FnCalendarBeforeListedDayGivesPreviousWrongFalsely : Prop := fnCalendarBeforeListedDayGivesPreviousRow.holds Try.pinned (OpenSpec.ofChange fnCalendarBeforeListedDayGivesPreviousWrong)

end Rows
end Go.Proofs.Qxb6628706a
