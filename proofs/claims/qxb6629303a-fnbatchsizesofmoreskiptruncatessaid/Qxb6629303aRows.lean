/-
  No cell of these rows narrows 'for every input' (looked for: loops, veiled, ifaces, maps, wideKeys, modest, calm, conditions, laid).
  DERIVED. THE GIVEN ROWS OF THIS SEAT. 2 by the template 'for every input the law returns true; each argument reads behind the call as it read before'; 0 by the template 'total and deterministic' (their statements: Qxb6629303aTotals.lean).
  GIVEN WITH THE SEED: the statements are not yours to turn. If you find one false, say at which input.
  Laid BY PROGRAM, IN A SANDBOX (cutbox-rows.mjs): the forced cells as the released guide's own fill.sh prints them over the translation 399273b5ad22ac67… (all of the seat's roots in one cut). By AI agents, Wed Nov 11 2026. No macro, syntax, notation, axiom, sorry.
-/
import Derived.Test.Qxb6629303aChecked
import GoSem.Claim
import GoSem.ClaimJoined
import GoSem.ClaimMapViews
import Derived.JoinedTies
import Derived.KernelRfl
namespace Go.Proofs.Qxb6629303a
/- THE CELL 'sum', in the pinned program and in every row, IS THE sha256 OF THE DUMP (.gsa) THAT Qxb6629303aProg.lean LOADS. Nothing in Lean hashes anything: it is a label: what it is worth is what the hold of that sum in a sandbox is worth. -/
noncomputable def Try.pinned : Pinned := { name := "qxb6629303a", sum := "399273b5ad22ac67705103048f84ad84e6288eb3bb1fee7cb9c5b519f225c556", checked := Try.checked }
namespace Rows
def none {H : Type} : Left H := { results := [], args := [] }

/-- 'zzlaws_spec_b1.FnBatchSizesOfUnfoldsOneBatch': WHATEVER THE INPUT: true; the input reads as it did. -/
def fnBatchSizesOfUnfoldsOneBatchSpec : ChangeSpec := { name := "fnBatchSizesOfUnfoldsOneBatch", fn := fun _ => fun
  | [d1, d2, d3] => { results := [.lit (.bool true)], args := [d1, d2, d3] }
  | _ => none }
def fnBatchSizesOfUnfoldsOneBatchRow : OpenClaim := { program := "qxb6629303a", sum := "399273b5ad22ac67705103048f84ad84e6288eb3bb1fee7cb9c5b519f225c556", func := "example.com/rollgate/rollgate/zzlaws_spec_b1.FnBatchSizesOfUnfoldsOneBatch", spec := "fnBatchSizesOfUnfoldsOneBatch", apart := false }
def FnBatchSizesOfUnfoldsOneBatchSaid : Prop := fnBatchSizesOfUnfoldsOneBatchRow.holds Try.pinned (OpenSpec.ofChange fnBatchSizesOfUnfoldsOneBatchSpec)

/-- ITS FALSE NEIGHBOUR: 'it returns false'. Refute it at one input. -/
def fnBatchSizesOfUnfoldsOneBatchWrong : ChangeSpec := { name := "fnBatchSizesOfUnfoldsOneBatch", fn := fun _ => fun
  | [d1, d2, d3] => { results := [.lit (.bool false)], args := [d1, d2, d3] }
  | _ => none }
def FnBatchSizesOfUnfoldsOneBatchWrongFalsely : Prop := fnBatchSizesOfUnfoldsOneBatchRow.holds Try.pinned (OpenSpec.ofChange fnBatchSizesOfUnfoldsOneBatchWrong)

/-- 'zzlaws_spec_b1.FnBatchSizesOfMoreSkipTruncates': WHATEVER THE INPUT: true; the input reads as it did. -/
def fnBatchSizesOfMoreSkipTruncatesSpec : ChangeSpec := { name := "fnBatchSizesOfMoreSkipTruncates", fn := fun _ => fun
  | [d1, d2, d3, d4] => { results := [.lit (.bool true)], args := [d1, d2, d3, d4] }
  | _ => none }
def fnBatchSizesOfMoreSkipTruncatesRow : OpenClaim := { program := "qxb6629303a", sum := "399273b5ad22ac67705103048f84ad84e6288eb3bb1fee7cb9c5b519f225c556", func := "example.com/rollgate/rollgate/zzlaws_spec_b1.FnBatchSizesOfMoreSkipTruncates", spec := "fnBatchSizesOfMoreSkipTruncates", apart := false }
def FnBatchSizesOfMoreSkipTruncatesSaid : Prop := fnBatchSizesOfMoreSkipTruncatesRow.holds Try.pinned (OpenSpec.ofChange fnBatchSizesOfMoreSkipTruncatesSpec)

/-- ITS FALSE NEIGHBOUR: 'it returns false'. Refute it at one input. -/
def fnBatchSizesOfMoreSkipTruncatesWrong : ChangeSpec := { name := "fnBatchSizesOfMoreSkipTruncates", fn := fun _ => fun
  | [d1, d2, d3, d4] => { results := [.lit (.bool false)], args := [d1, d2, d3, d4] }
  | _ => none }
def FnBatchSizesOfMoreSkipTruncatesWrongFalsely : Prop := fnBatchSizesOfMoreSkipTruncatesRow.holds Try.pinned (OpenSpec.ofChange fnBatchSizesOfMoreSkipTruncatesWrong)

end Rows
end Go.Proofs.Qxb6629303a
