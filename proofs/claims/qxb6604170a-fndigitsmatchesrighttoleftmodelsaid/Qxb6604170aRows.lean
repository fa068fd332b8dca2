/-
  No cell of these rows narrows 'for every input' (looked for: loops, veiled, ifaces, maps, wideKeys, modest, calm, conditions, laid).
  DERIVED. THE GIVEN ROWS OF THIS SEAT. 5 by the template 'for every input the law returns true; each argument reads behind the call as it read before'; 0 by the template 'total and deterministic' (their statements: Qxb6604170aTotals.lean).
  GIVEN WITH THE SEED: the statements are not yours to turn. If you find one false, say at which input.
  Laid BY PROGRAM, IN A SANDBOX (cutbox-rows.mjs): the forced cells as the released guide's own fill.sh prints them over the translation 233f8b23fc863094… (all of the seat's roots in one cut). By AI agents, Wed Nov 11 2026. No macro, syntax, notation, axiom, sorry.
-/
import Derived.Test.Qxb6604170aChecked
import GoSem.Claim
import GoSem.ClaimJoined
import GoSem.ClaimMapViews
import Derived.JoinedTies
import Derived.KernelRfl
namespace Go.Proofs.Qxb6604170a
/- THE CELL 'sum', in the pinned program and in every row, IS THE sha256 OF THE DUMP (.gsa) THAT Qxb6604170aProg.lean LOADS. Nothing in Lean hashes anything: it is a label: what it is worth is what the hold of that sum in a sandbox is worth. -/
noncomputable def Try.pinned : Pinned := { name := "qxb6604170a", sum := "233f8b23fc86309482247f9bf38300a84c942a2aa274aa578ab383d72a8a660a", checked := Try.checked }
namespace Rows
def none {H : Type} : Left H := { results := [], args := [] }

/-- 'zzlaws_pkg_state_b1.FnDigitsMatchesRightToLeftModel': WHATEVER THE INPUT: true; the input reads as it did. -/
def fnDigitsMatchesRightToLeftModelSpec : ChangeSpec := { name := "fnDigitsMatchesRightToLeftModel", fn := fun _ => fun
  | [d] => { results := [.lit (.bool true)], args := [d] }
  | _ => none }
def fnDigitsMatchesRightToLeftModelRow : OpenClaim := { program := "qxb6604170a", sum := "233f8b23fc86309482247f9bf38300a84c942a2aa274aa578ab383d72a8a660a", func := "example.com/evertick/evertick/zzlaws_pkg_state_b1.FnDigitsMatchesRightToLeftModel", spec := "fnDigitsMatchesRightToLeftModel", apart := false }
def FnDigitsMatchesRightToLeftModelSaid : Prop := fnDigitsMatchesRightToLeftModelRow.holds Try.pinned (OpenSpec.ofChange fnDigitsMatchesRightToLeftModelSpec)

/-- ITS FALSE NEIGHBOUR: 'it returns false'. Refute it at one input. -/
def fnDigitsMatchesRightToLeftModelWrong : ChangeSpec := { name := "fnDigitsMatchesRightToLeftModel", fn := fun _ => fun
  | [d] => { results := [.lit (.bool false)], args := [d] }
  | _ => none }
def FnDigitsMatchesRightToLeftModelWrongFalsely : Prop := fnDigitsMatchesRightToLeftModelRow.holds Try.pinned (OpenSpec.ofChange fnDigitsMatchesRightToLeftModelWrong)

/-- 'zzlaws_pkg_state_b1.FnDigitsRoundTripsDecimalText': WHATEVER THE INPUT: true; the input reads as it did. -/
def fnDigitsRoundTripsDecimalTextSpec : ChangeSpec := { name := "fnDigitsRoundTripsDecimalText", fn := fun _ => fun
  | [d] => { results := [.lit (.bool true)], args := [d] }
  | _ => none }
def fnDigitsRoundTripsDecimalTextRow : OpenClaim := { program := "qxb6604170a", sum := "233f8b23fc86309482247f9bf38300a84c942a2aa274aa578ab383d72a8a660a", func := "example.com/evertick/evertick/zzlaws_pkg_state_b1.FnDigitsRoundTripsDecimalText", spec := "fnDigitsRoundTripsDecimalText", apart := false }
def FnDigitsRoundTripsDecimalTextSaid : Prop := fnDigitsRoundTripsDecimalTextRow.holds Try.pinned (OpenSpec.ofChange fnDigitsRoundTripsDecimalTextSpec)

/-- ITS FALSE NEIGHBOUR: 'it returns false'. Refute it at one input. -/
def fnDigitsRoundTripsDecimalTextWrong : ChangeSpec := { name := "fnDigitsRoundTripsDecimalText", fn := fun _ => fun
  | [d] => { results := [.lit (.bool false)], args := [d] }
  | _ => none }
def FnDigitsRoundTripsDecimalTextWrongFalsely : Prop := fnDigitsRoundTripsDecimalTextRow.holds Try.pinned (OpenSpec.ofChange fnDigitsRoundTripsDecimalTextWrong)

/-- 'zzlaws_pkg_state_b1.FnOutcomeIsItsOwnText': WHATEVER THE INPUT: true; the input reads as it did. -/
def fnOutcomeIsItsOwnTextSpec : ChangeSpec := { name := "fnOutcomeIsItsOwnText", fn := fun _ => fun
  | [d] => { results := [.lit (.bool true)], args := [d] }
  | _ => none }
def fnOutcomeIsItsOwnTextRow : OpenClaim := { program := "qxb6604170a", sum := "233f8b23fc86309482247f9bf38300a84c942a2aa274aa578ab383d72a8a660a", func := "example.com/evertick/evertick/zzlaws_pkg_state_b1.FnOutcomeIsItsOwnText", spec := "fnOutcomeIsItsOwnText", apart := false }
def FnOutcomeIsItsOwnTextSaid : Prop := fnOutcomeIsItsOwnTextRow.holds Try.pinned (OpenSpec.ofChange fnOutcomeIsItsOwnTextSpec)

/-- ITS FALSE NEIGHBOUR: 'it returns false'. Refute it at one input. -/
def fnOutcomeIsItsOwnTextWrong : ChangeSpec := { name := "fnOutcomeIsItsOwnText", fn := fun _ => fun
  | [d] => { results := [.lit (.bool false)], args := [d] }
  | _ => none }
def FnOutcomeIsItsOwnTextWrongFalsely : Prop := fnOutcomeIsItsOwnTextRow.holds Try.pinned (OpenSpec.ofChange fnOutcomeIsItsOwnTextWrong)

/-- 'zzlaws_pkg_state_b1.FnCompareBoolClosedForm': WHATEVER THE INPUT: true; the input reads as it did. -/
def fnCompareBoolClosedFormSpec : ChangeSpec := { name := "fnCompareBoolClosedForm", fn := fun _ => fun
  | [d1, d2] => { results := [.lit (.bool true)], args := [d1, d2] }
  | _ => none }
def fnCompareBoolClosedFormRow : OpenClaim := { program := "qxb6604170a", sum := "233f8b23fc86309482247f9bf38300a84c942a2aa274aa578ab383d72a8a660a", func := "example.com/evertick/evertick/zzlaws_pkg_state_b1.FnCompareBoolClosedForm", spec := "fnCompareBoolClosedForm", apart := false }
def FnCompareBoolClosedFormSaid : Prop := fnCompareBoolClosedFormRow.holds Try.pinned (OpenSpec.ofChange fnCompareBoolClosedFormSpec)

/-- ITS FALSE NEIGHBOUR: 'it returns false'. Refute it at one input. -/
def fnCompareBoolClosedFormWrong : ChangeSpec := { name := "fnCompareBoolClosedForm", fn := fun _ => fun
  | [d1, d2] => { results := [.lit (.bool false)], args := [d1, d2] }
  | _ => none }
def FnCompareBoolClosedFormWrongFalsely : Prop := fnCompareBoolClosedFormRow.holds Try.pinned (OpenSpec.ofChange fnCompareBoolClosedFormWrong)

/-- 'zzlaws_pkg_state_b1.FnCompareBoolIsATotalOrder': WHATEVER THE INPUT: true; the input reads as it did. -/
def fnCompareBoolIsATotalOrderSpec : ChangeSpec := { name := "fnCompareBoolIsATotalOrder", fn := fun _ => fun
  | [d1, d2, d3] => { results := [.lit (.bool true)], args := [d1, d2, d3] }
  | _ => none }
def fnCompareBoolIsATotalOrderRow : OpenClaim := { program := "qxb6604170a", sum := "233f8b23fc86309482247f9bf38300a84c942a2aa274aa578ab383d72a8a660a", func := "example.com/evertick/evertick/zzlaws_pkg_state_b1.FnCompareBoolIsATotalOrder", spec := "fnCompareBoolIsATotalOrder", apart := false }
def FnCompareBoolIsATotalOrderSaid : Prop := fnCompareBoolIsATotalOrderRow.holds Try.pinned (OpenSpec.ofChange fnCompareBoolIsATotalOrderSpec)

/-- ITS FALSE NEIGHBOUR: 'it returns false'. Refute it at one input. -/
def fnCompareBoolIsATotalOrderWrong : ChangeSpec := { name := "fnCompareBoolIsATotalOrder", fn := fun _ => fun
  | [d1, d2, d3] => { results := [.lit (.bool false)], args := [d1, d2, d3] }
  | _ => none }
def FnCompareBoolIsATotalOrderWrongFalsely : Prop := fnCompareBoolIsATotalOrderRow.holds Try.pinned (OpenSpec.ofChange fnCompareBoolIsATotalOrderWrong)

end Rows
end Go.Proofs.Qxb6604170a
