/-
  No cell of these rows narrows 'for every input' (looked for: loops, veiled, ifaces, maps, wideKeys, modest, calm, conditions, laid).
  DERIVED. THE GIVEN ROWS OF THIS SEAT. 2 by the template 'for every input the law returns true; each argument reads behind the call as it read before'; 0 by the template 'total and deterministic' (their statements: Qxb6628745aTotals.lean).
  GIVEN WITH THE SEED: the statements are not yours to turn. If you find one false, say at which input.
  Laid BY PROGRAM, IN A SANDBOX (cutbox-rows.mjs): the forced cells as the released guide's own fill.sh prints them over the translation 69b95fbd335fa3fc… (all of the seat's roots in one cut). By AI agents, Wed Nov 11 2026. No macro, syntax, notation, axiom, sorry.
-/
import Derived.Test.Qxb6628745aChecked
import GoSem.Claim
import GoSem.ClaimJoined
import GoSem.ClaimMapViews
import Derived.JoinedTies
import Derived.KernelRfl
namespace Go.Proofs.Qxb6628745a
/- THE CELL 'sum', in the pinned program and in every row, IS THE sha256 OF THE DUMP (.gsa) THAT Qxb6628745aProg.lean LOADS. Nothing in Lean hashes anything: it is a label: what it is worth is what the hold of that sum in a sandbox is worth. -/
noncomputable def Try.pinned : Pinned := { name := "qxb6628745a", sum := "69b95fbd335fa3fc80dd6ff959edc9201c84eabcc61067b6ef7e8bb005fa4502", checked := Try.checked }
namespace Rows
def none {H : Type} : Left H := { results := [], args := [] }

/-- 'zzlaws_drisl_b1.FnInt64ComplementPair': WHATEVER THE INPUT: true; the input reads as it did. -/
def fnInt64ComplementPairSpec : ChangeSpec := { name := "fnInt64ComplementPair", fn := fun _ => fun
  | [d] => { results := [.lit (.bool true)], args := [d] }
  | _ => none }
def fnInt64ComplementPairRow : OpenClaim := { program := "qxb6628745a", sum := "69b95fbd335fa3fc80dd6ff959edc9201c84eabcc61067b6ef7e8bb005fa4502", func := "example.com/hashbound/hashbound/zzlaws_drisl_b1.FnInt64ComplementPair", spec := "fnInt64ComplementPair", apart := false }
def FnInt64ComplementPairSaid : Prop := fnInt64ComplementPairRow.holds Try.pinned (OpenSpec.ofChange fnInt64ComplementPairSpec)

/-- ITS FALSE NEIGHBOUR: 'it returns false'. Refute it at one input. -/
def fnInt64ComplementPairWrong : ChangeSpec := { name := "fnInt64ComplementPair", fn := fun _ => fun
  | [d] => { results := [.lit (.bool false)], args := [d] }
  | _ => none }
def FnInt64ComplementPairWrongFalsely : Prop := fnInt64ComplementPairRow.holds Try.pinned (OpenSpec.ofChange fnInt64ComplementPairWrong)

/-- 'zzlaws_drisl_b1.FnInt64OrderEmbedding': WHATEVER THE INPUT: true; the input reads as it did. -/
def fnInt64OrderEmbeddingSpec : ChangeSpec := { name := "fnInt64OrderEmbedding", fn := fun _ => fun
  | [d1, d2, d3, d4] => { results := [.lit (.bool true)], args := [d1, d2, d3, d4] }
  | _ => none }
def fnInt64OrderEmbeddingRow : OpenClaim := { program := "qxb6628745a", sum := "69b95fbd335fa3fc80dd6ff959edc9201c84eabcc61067b6ef7e8bb005fa4502", func := "example.com/hashbound/hashbound/zzlaws_drisl_b1.FnInt64OrderEmbedding", spec := "fnInt64OrderEmbedding", apart := false }
def FnInt64OrderEmbeddingSaid : Prop := fnInt64OrderEmbeddingRow.holds Try.pinned (OpenSpec.ofChange fnInt64OrderEmbeddingSpec)

/-- ITS FALSE NEIGHBOUR: 'it returns false'. Refute it at one input. -/
def fnInt64OrderEmbeddingWrong : ChangeSpec := { name := "fnInt64OrderEmbedding", fn := fun _ => fun
  | [d1, d2, d3, d4] => { results := [.lit (.bool false)], args := [d1, d2, d3, d4] }
  | _ => none }
def FnInt64OrderEmbeddingWrongFalsely : Prop := fnInt64OrderEmbeddingRow.holds Try.pinned (OpenSpec.ofChange fnInt64OrderEmbeddingWrong)

end Rows
end Go.Proofs.Qxb6628745a
