/-
  No cell of these rows narrows 'for every input' (looked for: loops, veiled, ifaces, maps, wideKeys, modest, calm, conditions, laid).
  DERIVED. THE GIVEN ROWS OF THIS SEAT. 5 by the template 'for every input the law returns true; each argument reads behind the call as it read before'; 0 by the template 'total and deterministic' (their statements: Qxb6600332aTotals.lean).
  GIVEN WITH THE SEED: the statements are not yours to turn. If you find one false, say at which input.
  Laid BY PROGRAM, IN A SANDBOX (cutbox-rows.mjs): the forced cells as the released guide's own fill.sh prints them over the translation 5ea6ae32a67cbb86… (all of the seat's roots in one cut). By AI agents, Wed Nov 11 2026. No macro, syntax, notation, axiom, sorry.
-/
import Derived.Test.Qxb6600332aChecked
import GoSem.Claim
import GoSem.ClaimJoined
import GoSem.ClaimMapViews
import Derived.JoinedTies
import Derived.KernelRfl
namespace Go.Proofs.Qxb6600332a
/- THE CELL 'sum', in the pinned program and in every row, IS THE sha256 OF THE DUMP (.gsa) THAT Qxb6600332aProg.lean LOADS. Nothing in Lean hashes anything: it is a label: what it is worth is what the hold of that sum in a sandbox is worth. -/
noncomputable def Try.pinned : Pinned := { name := "qxb6600332a", sum := "5ea6ae32a67cbb86dd9a8fecc99e0fa4526de1ddf10cd6aed2b29d6d0a47c572", checked := Try.checked }
namespace Rows
def none {H : Type} : Left H := { results := [], args := [] }

/-- 'zzlaws_root_b1.FnCredsBlockLineConcat': WHATEVER THE INPUT: true; the input reads as it did. -/
def fnCredsBlockLineConcatSpec : ChangeSpec := { name := "fnCredsBlockLineConcat", fn := fun _ => fun
  | [d1, d2] => { results := [.lit (.bool true)], args := [d1, d2] }
  | _ => none }
def fnCredsBlockLineConcatRow : OpenClaim := { program := "qxb6600332a", sum := "5ea6ae32a67cbb86dd9a8fecc99e0fa4526de1ddf10cd6aed2b29d6d0a47c572", func := "example.com/keys-to-claims/keys-to-claims/zzlaws_root_b1.FnCredsBlockLineConcat", spec := "fnCredsBlockLineConcat", apart := false }
def FnCredsBlockLineConcatSaid : Prop := fnCredsBlockLineConcatRow.holds Try.pinned (OpenSpec.ofChange fnCredsBlockLineConcatSpec)

/-- ITS FALSE NEIGHBOUR: 'it returns false'. Refute it at one input. -/
def fnCredsBlockLineConcatWrong : ChangeSpec := { name := "fnCredsBlockLineConcat", fn := fun _ => fun
  | [d1, d2] => { results := [.lit (.bool false)], args := [d1, d2] }
  | _ => none }
def FnCredsBlockLineConcatWrongFalsely : Prop := fnCredsBlockLineConcatRow.holds Try.pinned (OpenSpec.ofChange fnCredsBlockLineConcatWrong)

/-- 'zzlaws_root_b1.FnHoldsSeedExact': WHATEVER THE INPUT: true; the input reads as it did. -/
def fnHoldsSeedExactSpec : ChangeSpec := { name := "fnHoldsSeedExact", fn := fun _ => fun
  | [d] => { results := [.lit (.bool true)], args := [d] }
  | _ => none }
def fnHoldsSeedExactRow : OpenClaim := { program := "qxb6600332a", sum := "5ea6ae32a67cbb86dd9a8fecc99e0fa4526de1ddf10cd6aed2b29d6d0a47c572", func := "example.com/keys-to-claims/keys-to-claims/zzlaws_root_b1.FnHoldsSeedExact", spec := "fnHoldsSeedExact", apart := false }
def FnHoldsSeedExactSaid : Prop := fnHoldsSeedExactRow.holds Try.pinned (OpenSpec.ofChange fnHoldsSeedExactSpec)

/-- ITS FALSE NEIGHBOUR: 'it returns false'. Refute it at one input. -/
def fnHoldsSeedExactWrong : ChangeSpec := { name := "fnHoldsSeedExact", fn := fun _ => fun
  | [d] => { results := [.lit (.bool false)], args := [d] }
  | _ => none }
def FnHoldsSeedExactWrongFalsely : Prop := fnHoldsSeedExactRow.holds Try.pinned (OpenSpec.ofChange fnHoldsSeedExactWrong)

/-- 'zzlaws_root_b1.FnHoldsSeedSurvivesSurroundings': WHATEVER THE INPUT: true; the input reads as it did. -/
def fnHoldsSeedSurvivesSurroundingsSpec : ChangeSpec := { name := "fnHoldsSeedSurvivesSurroundings", fn := fun _ => fun
  | [d1, d2, d3] => { results := [.lit (.bool true)], args := [d1, d2, d3] }
  | _ => none }
def fnHoldsSeedSurvivesSurroundingsRow : OpenClaim := { program := "qxb6600332a", sum := "5ea6ae32a67cbb86dd9a8fecc99e0fa4526de1ddf10cd6aed2b29d6d0a47c572", func := "example.com/keys-to-claims/keys-to-claims/zzlaws_root_b1.FnHoldsSeedSurvivesSurroundings", spec := "fnHoldsSeedSurvivesSurroundings", apart := false }
def FnHoldsSeedSurvivesSurroundingsSaid : Prop := fnHoldsSeedSurvivesSurroundingsRow.holds Try.pinned (OpenSpec.ofChange fnHoldsSeedSurvivesSurroundingsSpec)

/-- ITS FALSE NEIGHBOUR: 'it returns false'. Refute it at one input. -/
def fnHoldsSeedSurvivesSurroundingsWrong : ChangeSpec := { name := "fnHoldsSeedSurvivesSurroundings", fn := fun _ => fun
  | [d1, d2, d3] => { results := [.lit (.bool false)], args := [d1, d2, d3] }
  | _ => none }
def FnHoldsSeedSurvivesSurroundingsWrongFalsely : Prop := fnHoldsSeedSurvivesSurroundingsRow.holds Try.pinned (OpenSpec.ofChange fnHoldsSeedSurvivesSurroundingsWrong)

/-- 'zzlaws_root_b1.FnHoldsSeedCaseBlind': WHATEVER THE INPUT: true; the input reads as it did. -/
def fnHoldsSeedCaseBlindSpec : ChangeSpec := { name := "fnHoldsSeedCaseBlind", fn := fun _ => fun
  | [d] => { results := [.lit (.bool true)], args := [d] }
  | _ => none }
def fnHoldsSeedCaseBlindRow : OpenClaim := { program := "qxb6600332a", sum := "5ea6ae32a67cbb86dd9a8fecc99e0fa4526de1ddf10cd6aed2b29d6d0a47c572", func := "example.com/keys-to-claims/keys-to-claims/zzlaws_root_b1.FnHoldsSeedCaseBlind", spec := "fnHoldsSeedCaseBlind", apart := false }
def FnHoldsSeedCaseBlindSaid : Prop := fnHoldsSeedCaseBlindRow.holds Try.pinned (OpenSpec.ofChange fnHoldsSeedCaseBlindSpec)

/-- ITS FALSE NEIGHBOUR: 'it returns false'. Refute it at one input. -/
def fnHoldsSeedCaseBlindWrong : ChangeSpec := { name := "fnHoldsSeedCaseBlind", fn := fun _ => fun
  | [d] => { results := [.lit (.bool false)], args := [d] }
  | _ => none }
def FnHoldsSeedCaseBlindWrongFalsely : Prop := fnHoldsSeedCaseBlindRow.holds Try.pinned (OpenSpec.ofChange fnHoldsSeedCaseBlindWrong)

/-- 'zzlaws_root_b1.FnCircumstancesStringTable': WHATEVER THE INPUT: true; the input reads as it did. -/
def fnCircumstancesStringTableSpec : ChangeSpec := { name := "fnCircumstancesStringTable", fn := fun _ => fun
  | [d] => { results := [.lit (.bool true)], args := [d] }
  | _ => none }
def fnCircumstancesStringTableRow : OpenClaim := { program := "qxb6600332a", sum := "5ea6ae32a67cbb86dd9a8fecc99e0fa4526de1ddf10cd6aed2b29d6d0a47c572", func := "example.com/keys-to-claims/keys-to-claims/zzlaws_root_b1.FnCircumstancesStringTable", spec := "fnCircumstancesStringTable", inPlace := ["internal/abi.NoEscape", "internal/bytealg.MakeNoZero"], apart := false }
def FnCircumstancesStringTableSaid : Prop := fnCircumstancesStringTableRow.holds Try.pinned (OpenSpec.ofChange fnCircumstancesStringTableSpec)

/-- ITS FALSE NEIGHBOUR: 'it returns false'. Refute it at one input. -/
def fnCircumstancesStringTableWrong : ChangeSpec := { name := "fnCircumstancesStringTable", fn := fun _ => fun
  | [d] => { results := [.lit (.bool false)], args := [d] }
  | _ => none }
def FnCircumstancesStringTableWrongFalsely : Prop := fnCircumstancesStringTableRow.holds Try.pinned (OpenSpec.ofChange fnCircumstancesStringTableWrong)

end Rows
end Go.Proofs.Qxb6600332a
