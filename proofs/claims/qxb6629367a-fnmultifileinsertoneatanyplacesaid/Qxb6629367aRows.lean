/-
  No cell of these rows narrows 'for every input' (looked for: loops, veiled, ifaces, maps, wideKeys, modest, calm, conditions, laid).
  DERIVED. THE GIVEN ROWS OF THIS SEAT. 2 by the template 'for every input the law returns true; each argument reads behind the call as it read before'; 0 by the template 'total and deterministic' (their statements: Qxb6629367aTotals.lean).
  GIVEN WITH THE SEED: the statements are not yours to turn. If you find one false, say at which input.
  Laid BY PROGRAM, IN A SANDBOX (cutbox-rows.mjs): the forced cells as the released guide's own fill.sh prints them over the translation 12638ac8aa1a9cb8… (all of the seat's roots in one cut). By AI agents, Wed Nov 11 2026. No macro, syntax, notation, axiom, sorry.
-/
import Derived.Test.Qxb6629367aChecked
import GoSem.Claim
import GoSem.ClaimJoined
import GoSem.ClaimMapViews
import Derived.JoinedTies
import Derived.KernelRfl
namespace Go.Proofs.Qxb6629367a
/- THE CELL 'sum', in the pinned program and in every row, IS THE sha256 OF THE DUMP (.gsa) THAT Qxb6629367aProg.lean LOADS. Nothing in Lean hashes anything: it is a label: what it is worth is what the hold of that sum in a sandbox is worth. -/
noncomputable def Try.pinned : Pinned := { name := "qxb6629367a", sum := "12638ac8aa1a9cb8647f676ccda53d17a5aab9c22c0c0b8ef08446d9a10a4d69", checked := Try.checked }
namespace Rows
def none {H : Type} : Left H := { results := [], args := [] }

/-- 'zzlaws_pkg_metainfo_b1.FnMultiFileSplitsAtAnyCut': WHATEVER THE INPUT: true; the input reads as it did. -/
def fnMultiFileSplitsAtAnyCutSpec : ChangeSpec := { name := "fnMultiFileSplitsAtAnyCut", fn := fun _ => fun
  | [d1, d2, d3] => { results := [.lit (.bool true)], args := [d1, d2, d3] }
  | _ => none }
def fnMultiFileSplitsAtAnyCutRow : OpenClaim := { program := "qxb6629367a", sum := "12638ac8aa1a9cb8647f676ccda53d17a5aab9c22c0c0b8ef08446d9a10a4d69", func := "example.com/peerferry/peerferry/zzlaws_pkg_metainfo_b1.FnMultiFileSplitsAtAnyCut", spec := "fnMultiFileSplitsAtAnyCut", apart := false }
def FnMultiFileSplitsAtAnyCutSaid : Prop := fnMultiFileSplitsAtAnyCutRow.holds Try.pinned (OpenSpec.ofChange fnMultiFileSplitsAtAnyCutSpec)

/-- ITS FALSE NEIGHBOUR: 'it returns false'. Refute it at one input. -/
def fnMultiFileSplitsAtAnyCutWrong : ChangeSpec := { name := "fnMultiFileSplitsAtAnyCut", fn := fun _ => fun
  | [d1, d2, d3] => { results := [.lit (.bool false)], args := [d1, d2, d3] }
  | _ => none }
def FnMultiFileSplitsAtAnyCutWrongFalsely : Prop := fnMultiFileSplitsAtAnyCutRow.holds Try.pinned (OpenSpec.ofChange fnMultiFileSplitsAtAnyCutWrong)

/-- 'zzlaws_pkg_metainfo_b1.FnMultiFileInsertOneAtAnyPlace': WHATEVER THE INPUT: true; the input reads as it did. -/
def fnMultiFileInsertOneAtAnyPlaceSpec : ChangeSpec := { name := "fnMultiFileInsertOneAtAnyPlace", fn := fun _ => fun
  | [d1, d2, d3, d4] => { results := [.lit (.bool true)], args := [d1, d2, d3, d4] }
  | _ => none }
def fnMultiFileInsertOneAtAnyPlaceRow : OpenClaim := { program := "qxb6629367a", sum := "12638ac8aa1a9cb8647f676ccda53d17a5aab9c22c0c0b8ef08446d9a10a4d69", func := "example.com/peerferry/peerferry/zzlaws_pkg_metainfo_b1.FnMultiFileInsertOneAtAnyPlace", spec := "fnMultiFileInsertOneAtAnyPlace", apart := false }
def FnMultiFileInsertOneAtAnyPlaceSaid : Prop := fnMultiFileInsertOneAtAnyPlaceRow.holds Try.pinned (OpenSpec.ofChange fnMultiFileInsertOneAtAnyPlaceSpec)

/-- ITS FALSE NEIGHBOUR: 'it returns false'. Refute it at one input. -/
def fnMultiFileInsertOneAtAnyPlaceWrong : ChangeSpec := { name := "fnMultiFileInsertOneAtAnyPlace", fn := fun _ => fun
  | [d1, d2, d3, d4] => { results := [.lit (.bool false)], args := [d1, d2, d3, d4] }
  | _ => none }
def FnMultiFileInsertOneAtAnyPlaceWrongFalsely : Prop := fnMultiFileInsertOneAtAnyPlaceRow.holds Try.pinned (OpenSpec.ofChange fnMultiFileInsertOneAtAnyPlaceWrong)

end Rows
end Go.Proofs.Qxb6629367a
