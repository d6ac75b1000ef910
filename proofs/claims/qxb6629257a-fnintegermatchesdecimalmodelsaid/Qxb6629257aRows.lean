/-
  No cell of these rows narrows 'for every input' (looked for: loops, veiled, ifaces, maps, wideKeys, modest, calm, conditions, laid).
  DERIVED. THE GIVEN ROWS OF THIS SEAT. 2 by the template 'for every input the law returns true; each argument reads behind the call as it read before'; 0 by the template 'total and deterministic' (their statements: Qxb6629257aTotals.lean).
  GIVEN WITH THE SEED: the statements are not yours to turn. If you find one false, say at which input.
  Laid BY PROGRAM, IN A SANDBOX (cutbox-rows.mjs): the forced cells as the released guide's own fill.sh prints them over the translation 6709290b00aebaf5… (all of the seat's roots in one cut). By AI agents, Wed Nov 11 2026. No macro, syntax, notation, axiom, sorry.
-/
import Derived.Test.Qxb6629257aChecked
import GoSem.Claim
import GoSem.ClaimJoined
import GoSem.ClaimMapViews
import Derived.JoinedTies
import Derived.KernelRfl
namespace Go.Proofs.Qxb6629257a
/- THE CELL 'sum', in the pinned program and in every row, IS THE sha256 OF THE DUMP (.gsa) THAT Qxb6629257aProg.lean LOADS. Nothing in Lean hashes anything: it is a label: what it is worth is what the hold of that sum in a sandbox is worth. -/
noncomputable def Try.pinned : Pinned := { name := "qxb6629257a", sum := "6709290b00aebaf59beb56c00b407ce9fe92231a64a49a0963ce0a443c214e11", checked := Try.checked }
namespace Rows
def none {H : Type} : Left H := { results := [], args := [] }

/-- 'zzlaws_internal_strictjson_b1.FnIntegerMatchesDecimalModel': WHATEVER THE INPUT: true; the input reads as it did. -/
def fnIntegerMatchesDecimalModelSpec : ChangeSpec := { name := "fnIntegerMatchesDecimalModel", fn := fun _ => fun
  | [d] => { results := [.lit (.bool true)], args := [d] }
  | _ => none }
def fnIntegerMatchesDecimalModelRow : OpenClaim := { program := "qxb6629257a", sum := "6709290b00aebaf59beb56c00b407ce9fe92231a64a49a0963ce0a443c214e11", func := "example.com/covenant/covenant/zzlaws_internal_strictjson_b1.FnIntegerMatchesDecimalModel", spec := "fnIntegerMatchesDecimalModel", unfollowed := true, recurses := true, apart := false }
def FnIntegerMatchesDecimalModelSaid : Prop := fnIntegerMatchesDecimalModelRow.holds Try.pinned (OpenSpec.ofChange fnIntegerMatchesDecimalModelSpec)

/-- ITS FALSE NEIGHBOUR: 'it returns false'. Refute it at one input. -/
def fnIntegerMatchesDecimalModelWrong : ChangeSpec := { name := "fnIntegerMatchesDecimalModel", fn := fun _ => fun
  | [d] => { results := [.lit (.bool false)], args := [d] }
  | _ => none }
def FnIntegerMatchesDecimalModelWrongFalsely : Prop := fnIntegerMatchesDecimalModelRow.holds Try.pinned (OpenSpec.ofChange fnIntegerMatchesDecimalModelWrong)

/-- 'zzlaws_internal_strictjson_b1.FnIntegerAgreesAcrossEquivalentForms': WHATEVER THE INPUT: true; the input reads as it did. -/
def fnIntegerAgreesAcrossEquivalentFormsSpec : ChangeSpec := { name := "fnIntegerAgreesAcrossEquivalentForms", fn := fun _ => fun
  | [d1, d2, d3, d4] => { results := [.lit (.bool true)], args := [d1, d2, d3, d4] }
  | _ => none }
def fnIntegerAgreesAcrossEquivalentFormsRow : OpenClaim := { program := "qxb6629257a", sum := "6709290b00aebaf59beb56c00b407ce9fe92231a64a49a0963ce0a443c214e11", func := "example.com/covenant/covenant/zzlaws_internal_strictjson_b1.FnIntegerAgreesAcrossEquivalentForms", spec := "fnIntegerAgreesAcrossEquivalentForms", unfollowed := true, recurses := true, apart := false }
def FnIntegerAgreesAcrossEquivalentFormsSaid : Prop := fnIntegerAgreesAcrossEquivalentFormsRow.holds Try.pinned (OpenSpec.ofChange fnIntegerAgreesAcrossEquivalentFormsSpec)

/-- ITS FALSE NEIGHBOUR: 'it returns false'. Refute it at one input. -/
def fnIntegerAgreesAcrossEquivalentFormsWrong : ChangeSpec := { name := "fnIntegerAgreesAcrossEquivalentForms", fn := fun _ => fun
  | [d1, d2, d3, d4] => { results := [.lit (.bool false)], args := [d1, d2, d3, d4] }
  | _ => none }
def FnIntegerAgreesAcrossEquivalentFormsWrongFalsely : Prop := fnIntegerAgreesAcrossEquivalentFormsRow.holds Try.pinned (OpenSpec.ofChange fnIntegerAgreesAcrossEquivalentFormsWrong)

end Rows
end Go.Proofs.Qxb6629257a
