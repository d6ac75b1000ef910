/-
  No cell of these rows narrows 'for every input' (looked for: loops, veiled, ifaces, maps, wideKeys, modest, calm, conditions, laid).
  DERIVED. THE GIVEN ROWS OF THIS SEAT. 2 by the template 'for every input the law returns true; each argument reads behind the call as it read before'; 0 by the template 'total and deterministic' (their statements: Qxb6629184aTotals.lean).
  GIVEN WITH THE SEED: the statements are not yours to turn. If you find one false, say at which input.
  Laid BY PROGRAM, IN A SANDBOX (cutbox-rows.mjs): the forced cells as the released guide's own fill.sh prints them over the translation 3e30542c94fde7f2… (all of the seat's roots in one cut). By AI agents, Wed Nov 11 2026. No macro, syntax, notation, axiom, sorry.
-/
import Derived.Test.Qxb6629184aChecked
import GoSem.Claim
import GoSem.ClaimJoined
import GoSem.ClaimMapViews
import Derived.JoinedTies
import Derived.KernelRfl
namespace Go.Proofs.Qxb6629184a
/- THE CELL 'sum', in the pinned program and in every row, IS THE sha256 OF THE DUMP (.gsa) THAT Qxb6629184aProg.lean LOADS. Nothing in Lean hashes anything: it is a label: what it is worth is what the hold of that sum in a sandbox is worth. -/
noncomputable def Try.pinned : Pinned := { name := "qxb6629184a", sum := "3e30542c94fde7f239d11de01907b2555766e4ce5f57920c3b4651a20294de4a", checked := Try.checked }
namespace Rows
def none {H : Type} : Left H := { results := [], args := [] }

/-- 'zzlaws_internal_calendar_b1.FnNextWalksTheDaysAfterD': WHATEVER THE INPUT: true; the input reads as it did. -/
def fnNextWalksTheDaysAfterDSpec : ChangeSpec := { name := "fnNextWalksTheDaysAfterD", fn := fun _ => fun
  | [d1, d2] => { results := [.lit (.bool true)], args := [d1, d2] }
  | _ => none }
def fnNextWalksTheDaysAfterDRow : OpenClaim := { program := "qxb6629184a", sum := "3e30542c94fde7f239d11de01907b2555766e4ce5f57920c3b4651a20294de4a", func := "example.com/zhaomu/zhaomu/zzlaws_internal_calendar_b1.FnNextWalksTheDaysAfterD", spec := "fnNextWalksTheDaysAfterD", apart := false }
def FnNextWalksTheDaysAfterDSaid : Prop := fnNextWalksTheDaysAfterDRow.holds Try.pinned (OpenSpec.ofChange fnNextWalksTheDaysAfterDSpec)

/-- ITS FALSE NEIGHBOUR: 'it returns false'. Refute it at one input. -/
def fnNextWalksTheDaysAfterDWrong : ChangeSpec := { name := "fnNextWalksTheDaysAfterD", fn := fun _ => fun
  | [d1, d2] => { results := [.lit (.bool false)], args := [d1, d2] }
  | _ => none }
def FnNextWalksTheDaysAfterDWrongFalsely : Prop := fnNextWalksTheDaysAfterDRow.holds Try.pinned (OpenSpec.ofChange fnNextWalksTheDaysAfterDWrong)

/-- 'zzlaws_internal_calendar_b1.FnNextAfterAddingADay': WHATEVER THE INPUT: true; the input reads as it did. -/
def fnNextAfterAddingADaySpec : ChangeSpec := { name := "fnNextAfterAddingADay", fn := fun _ => fun
  | [d1, d2, d3] => { results := [.lit (.bool true)], args := [d1, d2, d3] }
  | _ => none }
def fnNextAfterAddingADayRow : OpenClaim := { program := "qxb6629184a", sum := "3e30542c94fde7f239d11de01907b2555766e4ce5f57920c3b4651a20294de4a", func := "example.com/zhaomu/zhaomu/zzlaws_internal_calendar_b1.FnNextAfterAddingADay", spec := "fnNextAfterAddingADay", apart := false }
def FnNextAfterAddingADaySaid : Prop := fnNextAfterAddingADayRow.holds Try.pinned (OpenSpec.ofChange fnNextAfterAddingADaySpec)

/-- ITS FALSE NEIGHBOUR: 'it returns false'. Refute it at one input. -/
def fnNextAfterAddingADayWrong : ChangeSpec := { name := "fnNextAfterAddingADay", fn := fun _ => fun
  | [d1, d2, d3] => { results := [.lit (.bool false)], args := [d1, d2, d3] }
  | _ => none }
def FnNextAfterAddingADayWrongFalsely : Prop := fnNextAfterAddingADayRow.holds Try.pinned (OpenSpec.ofChange fnNextAfterAddingADayWrong)

end Rows
end Go.Proofs.Qxb6629184a
