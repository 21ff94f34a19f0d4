/-
  No cell of these rows narrows 'for every input' (looked for: loops, veiled, ifaces, maps, wideKeys, modest, calm, conditions, laid).
  DERIVED. THE GIVEN ROWS OF THIS SEAT. 6 by the template 'for every input the law returns true; each argument reads behind the call as it read before'; 0 by the template 'total and deterministic' (their statements: Qxb6605335aTotals.lean).
  GIVEN WITH THE SEED: the statements are not yours to turn. If you find one false, say at which input.
  Laid BY PROGRAM, IN A SANDBOX (cutbox-rows.mjs): the forced cells as the released guide's own fill.sh prints them over the translation 902cb8df85b6f649… (all of the seat's roots in one cut). By AI agents, Wed Nov 11 2026. No macro, syntax, notation, axiom, sorry.
-/
import Derived.Test.Qxb6605335aChecked
import GoSem.Claim
import GoSem.ClaimJoined
import GoSem.ClaimMapViews
import Derived.JoinedTies
import Derived.KernelRfl
namespace Go.Proofs.Qxb6605335a
/- THE CELL 'sum', in the pinned program and in every row, IS THE sha256 OF THE DUMP (.gsa) THAT Qxb6605335aProg.lean LOADS. Nothing in Lean hashes anything: it is a label: what it is worth is what the hold of that sum in a sandbox is worth. -/
noncomputable def Try.pinned : Pinned := { name := "qxb6605335a", sum := "902cb8df85b6f64968c52596295f6ec62051203d514dbdea2c4ef059f8ee535b", checked := Try.checked }
namespace Rows
def none {H : Type} : Left H := { results := [], args := [] }

/-- 'zzlaws_pkg_csvfile_b1.FnDigitsAgreesWithPlaceValueModel': WHATEVER THE INPUT: true; the input reads as it did. -/
def fnDigitsAgreesWithPlaceValueModelSpec : ChangeSpec := { name := "fnDigitsAgreesWithPlaceValueModel", fn := fun _ => fun
  | [d1, d2, d3] => { results := [.lit (.bool true)], args := [d1, d2, d3] }
  | _ => none }
def fnDigitsAgreesWithPlaceValueModelRow : OpenClaim := { program := "qxb6605335a", sum := "902cb8df85b6f64968c52596295f6ec62051203d514dbdea2c4ef059f8ee535b", func := "example.com/tenorfix/tenorfix/zzlaws_pkg_csvfile_b1.FnDigitsAgreesWithPlaceValueModel", spec := "fnDigitsAgreesWithPlaceValueModel", apart := false }
def FnDigitsAgreesWithPlaceValueModelSaid : Prop := fnDigitsAgreesWithPlaceValueModelRow.holds Try.pinned (OpenSpec.ofChange fnDigitsAgreesWithPlaceValueModelSpec)

/-- ITS FALSE NEIGHBOUR: 'it returns false'. Refute it at one input. -/
def fnDigitsAgreesWithPlaceValueModelWrong : ChangeSpec := { name := "fnDigitsAgreesWithPlaceValueModel", fn := fun _ => fun
  | [d1, d2, d3] => { results := [.lit (.bool false)], args := [d1, d2, d3] }
  | _ => none }
def FnDigitsAgreesWithPlaceValueModelWrongFalsely : Prop := fnDigitsAgreesWithPlaceValueModelRow.holds Try.pinned (OpenSpec.ofChange fnDigitsAgreesWithPlaceValueModelWrong)

/-- 'zzlaws_pkg_csvfile_b1.FnDigitsReadsBackDecimalText': WHATEVER THE INPUT: true; the input reads as it did. -/
def fnDigitsReadsBackDecimalTextSpec : ChangeSpec := { name := "fnDigitsReadsBackDecimalText", fn := fun _ => fun
  | [d1, d2, d3] => { results := [.lit (.bool true)], args := [d1, d2, d3] }
  | _ => none }
def fnDigitsReadsBackDecimalTextRow : OpenClaim := { program := "qxb6605335a", sum := "902cb8df85b6f64968c52596295f6ec62051203d514dbdea2c4ef059f8ee535b", func := "example.com/tenorfix/tenorfix/zzlaws_pkg_csvfile_b1.FnDigitsReadsBackDecimalText", spec := "fnDigitsReadsBackDecimalText", apart := false }
def FnDigitsReadsBackDecimalTextSaid : Prop := fnDigitsReadsBackDecimalTextRow.holds Try.pinned (OpenSpec.ofChange fnDigitsReadsBackDecimalTextSpec)

/-- ITS FALSE NEIGHBOUR: 'it returns false'. Refute it at one input. -/
def fnDigitsReadsBackDecimalTextWrong : ChangeSpec := { name := "fnDigitsReadsBackDecimalText", fn := fun _ => fun
  | [d1, d2, d3] => { results := [.lit (.bool false)], args := [d1, d2, d3] }
  | _ => none }
def FnDigitsReadsBackDecimalTextWrongFalsely : Prop := fnDigitsReadsBackDecimalTextRow.holds Try.pinned (OpenSpec.ofChange fnDigitsReadsBackDecimalTextWrong)

/-- 'zzlaws_pkg_csvfile_b1.FnDaysInAgreesWithDayCount': WHATEVER THE INPUT: true; the input reads as it did. -/
def fnDaysInAgreesWithDayCountSpec : ChangeSpec := { name := "fnDaysInAgreesWithDayCount", fn := fun _ => fun
  | [d1, d2] => { results := [.lit (.bool true)], args := [d1, d2] }
  | _ => none }
def fnDaysInAgreesWithDayCountRow : OpenClaim := { program := "qxb6605335a", sum := "902cb8df85b6f64968c52596295f6ec62051203d514dbdea2c4ef059f8ee535b", func := "example.com/tenorfix/tenorfix/zzlaws_pkg_csvfile_b1.FnDaysInAgreesWithDayCount", spec := "fnDaysInAgreesWithDayCount", apart := false }
def FnDaysInAgreesWithDayCountSaid : Prop := fnDaysInAgreesWithDayCountRow.holds Try.pinned (OpenSpec.ofChange fnDaysInAgreesWithDayCountSpec)

/-- ITS FALSE NEIGHBOUR: 'it returns false'. Refute it at one input. -/
def fnDaysInAgreesWithDayCountWrong : ChangeSpec := { name := "fnDaysInAgreesWithDayCount", fn := fun _ => fun
  | [d1, d2] => { results := [.lit (.bool false)], args := [d1, d2] }
  | _ => none }
def FnDaysInAgreesWithDayCountWrongFalsely : Prop := fnDaysInAgreesWithDayCountRow.holds Try.pinned (OpenSpec.ofChange fnDaysInAgreesWithDayCountWrong)

/-- 'zzlaws_pkg_csvfile_b1.FnDaysInFourHundredYearCycle': WHATEVER THE INPUT: true; the input reads as it did. -/
def fnDaysInFourHundredYearCycleSpec : ChangeSpec := { name := "fnDaysInFourHundredYearCycle", fn := fun _ => fun
  | [d] => { results := [.lit (.bool true)], args := [d] }
  | _ => none }
def fnDaysInFourHundredYearCycleRow : OpenClaim := { program := "qxb6605335a", sum := "902cb8df85b6f64968c52596295f6ec62051203d514dbdea2c4ef059f8ee535b", func := "example.com/tenorfix/tenorfix/zzlaws_pkg_csvfile_b1.FnDaysInFourHundredYearCycle", spec := "fnDaysInFourHundredYearCycle", apart := false }
def FnDaysInFourHundredYearCycleSaid : Prop := fnDaysInFourHundredYearCycleRow.holds Try.pinned (OpenSpec.ofChange fnDaysInFourHundredYearCycleSpec)

/-- ITS FALSE NEIGHBOUR: 'it returns false'. Refute it at one input. -/
def fnDaysInFourHundredYearCycleWrong : ChangeSpec := { name := "fnDaysInFourHundredYearCycle", fn := fun _ => fun
  | [d] => { results := [.lit (.bool false)], args := [d] }
  | _ => none }
def FnDaysInFourHundredYearCycleWrongFalsely : Prop := fnDaysInFourHundredYearCycleRow.holds Try.pinned (OpenSpec.ofChange fnDaysInFourHundredYearCycleWrong)

/-- 'zzlaws_pkg_csvfile_b1.FnSameFieldsExactlyWhenEncodingsAgree': WHATEVER THE INPUT: true; the input reads as it did. -/
def fnSameFieldsExactlyWhenEncodingsAgreeSpec : ChangeSpec := { name := "fnSameFieldsExactlyWhenEncodingsAgree", fn := fun _ => fun
  | [d1, d2] => { results := [.lit (.bool true)], args := [d1, d2] }
  | _ => none }
def fnSameFieldsExactlyWhenEncodingsAgreeRow : OpenClaim := { program := "qxb6605335a", sum := "902cb8df85b6f64968c52596295f6ec62051203d514dbdea2c4ef059f8ee535b", func := "example.com/tenorfix/tenorfix/zzlaws_pkg_csvfile_b1.FnSameFieldsExactlyWhenEncodingsAgree", spec := "fnSameFieldsExactlyWhenEncodingsAgree", apart := false }
def FnSameFieldsExactlyWhenEncodingsAgreeSaid : Prop := fnSameFieldsExactlyWhenEncodingsAgreeRow.holds Try.pinned (OpenSpec.ofChange fnSameFieldsExactlyWhenEncodingsAgreeSpec)

/-- ITS FALSE NEIGHBOUR: 'it returns false'. Refute it at one input. -/
def fnSameFieldsExactlyWhenEncodingsAgreeWrong : ChangeSpec := { name := "fnSameFieldsExactlyWhenEncodingsAgree", fn := fun _ => fun
  | [d1, d2] => { results := [.lit (.bool false)], args := [d1, d2] }
  | _ => none }
def FnSameFieldsExactlyWhenEncodingsAgreeWrongFalsely : Prop := fnSameFieldsExactlyWhenEncodingsAgreeRow.holds Try.pinned (OpenSpec.ofChange fnSameFieldsExactlyWhenEncodingsAgreeWrong)

/-- 'zzlaws_pkg_csvfile_b1.FnSameFieldsEquivalenceAndRefusals': WHATEVER THE INPUT: true; the input reads as it did. -/
def fnSameFieldsEquivalenceAndRefusalsSpec : ChangeSpec := { name := "fnSameFieldsEquivalenceAndRefusals", fn := fun _ => fun
  | [d1, d2] => { results := [.lit (.bool true)], args := [d1, d2] }
  | _ => none }
def fnSameFieldsEquivalenceAndRefusalsRow : OpenClaim := { program := "qxb6605335a", sum := "902cb8df85b6f64968c52596295f6ec62051203d514dbdea2c4ef059f8ee535b", func := "example.com/tenorfix/tenorfix/zzlaws_pkg_csvfile_b1.FnSameFieldsEquivalenceAndRefusals", spec := "fnSameFieldsEquivalenceAndRefusals", apart := false }
def FnSameFieldsEquivalenceAndRefusalsSaid : Prop := fnSameFieldsEquivalenceAndRefusalsRow.holds Try.pinned (OpenSpec.ofChange fnSameFieldsEquivalenceAndRefusalsSpec)

/-- ITS FALSE NEIGHBOUR: 'it returns false'. Refute it at one input. -/
def fnSameFieldsEquivalenceAndRefusalsWrong : ChangeSpec := { name := "fnSameFieldsEquivalenceAndRefusals", fn := fun _ => fun
  | [d1, d2] => { results := [.lit (.bool false)], args := [d1, d2] }
  | _ => none }
def FnSameFieldsEquivalenceAndRefusalsWrongFalsely : Prop := fnSameFieldsEquivalenceAndRefusalsRow.holds Try.pinned (OpenSpec.ofChange fnSameFieldsEquivalenceAndRefusalsWrong)

end Rows
end Go.Proofs.Qxb6605335a
