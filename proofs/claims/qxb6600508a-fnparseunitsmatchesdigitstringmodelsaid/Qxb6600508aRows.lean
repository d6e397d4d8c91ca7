/-
  No cell of these rows narrows 'for every input' (looked for: loops, veiled, ifaces, maps, wideKeys, modest, calm, conditions, laid).
  DERIVED. THE GIVEN ROWS OF THIS SEAT. 9 by the template 'for every input the law returns true; each argument reads behind the call as it read before'; 0 by the template 'total and deterministic' (their statements: Qxb6600508aTotals.lean).
  GIVEN WITH THE SEED: the statements are not yours to turn. If you find one false, say at which input.
  Laid BY PROGRAM, IN A SANDBOX (cutbox-rows.mjs): the forced cells as the released guide's own fill.sh prints them over the translation d59e0c374517a541… (all of the seat's roots in one cut). By AI agents, Wed Nov 11 2026. No macro, syntax, notation, axiom, sorry.
-/
import Derived.Test.Qxb6600508aChecked
import GoSem.Claim
import GoSem.ClaimJoined
import GoSem.ClaimMapViews
import Derived.JoinedTies
import Derived.KernelRfl
namespace Go.Proofs.Qxb6600508a
/- THE CELL 'sum', in the pinned program and in every row, IS THE sha256 OF THE DUMP (.gsa) THAT Qxb6600508aProg.lean LOADS. Nothing in Lean hashes anything: it is a label: what it is worth is what the hold of that sum in a sandbox is worth. -/
noncomputable def Try.pinned : Pinned := { name := "qxb6600508a", sum := "d59e0c374517a541222b2fbda0ba75c8d51ca22f716b2b3aa4ce28ea2b8755d0", checked := Try.checked }
namespace Rows
def none {H : Type} : Left H := { results := [], args := [] }

/-- 'zzlaws_root_b1.FnDigitsMatchesPlaceValueModel': WHATEVER THE INPUT: true; the input reads as it did. -/
def fnDigitsMatchesPlaceValueModelSpec : ChangeSpec := { name := "fnDigitsMatchesPlaceValueModel", fn := fun _ => fun
  | [d] => { results := [.lit (.bool true)], args := [d] }
  | _ => none }
def fnDigitsMatchesPlaceValueModelRow : OpenClaim := { program := "qxb6600508a", sum := "d59e0c374517a541222b2fbda0ba75c8d51ca22f716b2b3aa4ce28ea2b8755d0", func := "example.com/zhaomu/zhaomu/zzlaws_root_b1.FnDigitsMatchesPlaceValueModel", spec := "fnDigitsMatchesPlaceValueModel", apart := false }
def FnDigitsMatchesPlaceValueModelSaid : Prop := fnDigitsMatchesPlaceValueModelRow.holds Try.pinned (OpenSpec.ofChange fnDigitsMatchesPlaceValueModelSpec)

/-- ITS FALSE NEIGHBOUR: 'it returns false'. Refute it at one input. -/
def fnDigitsMatchesPlaceValueModelWrong : ChangeSpec := { name := "fnDigitsMatchesPlaceValueModel", fn := fun _ => fun
  | [d] => { results := [.lit (.bool false)], args := [d] }
  | _ => none }
def FnDigitsMatchesPlaceValueModelWrongFalsely : Prop := fnDigitsMatchesPlaceValueModelRow.holds Try.pinned (OpenSpec.ofChange fnDigitsMatchesPlaceValueModelWrong)

/-- 'zzlaws_root_b1.FnDigitsReadsBackItsDecimalText': WHATEVER THE INPUT: true; the input reads as it did. -/
def fnDigitsReadsBackItsDecimalTextSpec : ChangeSpec := { name := "fnDigitsReadsBackItsDecimalText", fn := fun _ => fun
  | [d] => { results := [.lit (.bool true)], args := [d] }
  | _ => none }
def fnDigitsReadsBackItsDecimalTextRow : OpenClaim := { program := "qxb6600508a", sum := "d59e0c374517a541222b2fbda0ba75c8d51ca22f716b2b3aa4ce28ea2b8755d0", func := "example.com/zhaomu/zhaomu/zzlaws_root_b1.FnDigitsReadsBackItsDecimalText", spec := "fnDigitsReadsBackItsDecimalText", apart := false }
def FnDigitsReadsBackItsDecimalTextSaid : Prop := fnDigitsReadsBackItsDecimalTextRow.holds Try.pinned (OpenSpec.ofChange fnDigitsReadsBackItsDecimalTextSpec)

/-- ITS FALSE NEIGHBOUR: 'it returns false'. Refute it at one input. -/
def fnDigitsReadsBackItsDecimalTextWrong : ChangeSpec := { name := "fnDigitsReadsBackItsDecimalText", fn := fun _ => fun
  | [d] => { results := [.lit (.bool false)], args := [d] }
  | _ => none }
def FnDigitsReadsBackItsDecimalTextWrongFalsely : Prop := fnDigitsReadsBackItsDecimalTextRow.holds Try.pinned (OpenSpec.ofChange fnDigitsReadsBackItsDecimalTextWrong)

/-- 'zzlaws_root_b1.FnDigitsOfConcatenation': WHATEVER THE INPUT: true; the input reads as it did. -/
def fnDigitsOfConcatenationSpec : ChangeSpec := { name := "fnDigitsOfConcatenation", fn := fun _ => fun
  | [d1, d2] => { results := [.lit (.bool true)], args := [d1, d2] }
  | _ => none }
def fnDigitsOfConcatenationRow : OpenClaim := { program := "qxb6600508a", sum := "d59e0c374517a541222b2fbda0ba75c8d51ca22f716b2b3aa4ce28ea2b8755d0", func := "example.com/zhaomu/zhaomu/zzlaws_root_b1.FnDigitsOfConcatenation", spec := "fnDigitsOfConcatenation", apart := false }
def FnDigitsOfConcatenationSaid : Prop := fnDigitsOfConcatenationRow.holds Try.pinned (OpenSpec.ofChange fnDigitsOfConcatenationSpec)

/-- ITS FALSE NEIGHBOUR: 'it returns false'. Refute it at one input. -/
def fnDigitsOfConcatenationWrong : ChangeSpec := { name := "fnDigitsOfConcatenation", fn := fun _ => fun
  | [d1, d2] => { results := [.lit (.bool false)], args := [d1, d2] }
  | _ => none }
def FnDigitsOfConcatenationWrongFalsely : Prop := fnDigitsOfConcatenationRow.holds Try.pinned (OpenSpec.ofChange fnDigitsOfConcatenationWrong)

/-- 'zzlaws_root_b1.FnParseUnitsMatchesDigitStringModel': WHATEVER THE INPUT: true; the input reads as it did. -/
def fnParseUnitsMatchesDigitStringModelSpec : ChangeSpec := { name := "fnParseUnitsMatchesDigitStringModel", fn := fun _ => fun
  | [d1, d2] => { results := [.lit (.bool true)], args := [d1, d2] }
  | _ => none }
def fnParseUnitsMatchesDigitStringModelRow : OpenClaim := { program := "qxb6600508a", sum := "d59e0c374517a541222b2fbda0ba75c8d51ca22f716b2b3aa4ce28ea2b8755d0", func := "example.com/zhaomu/zhaomu/zzlaws_root_b1.FnParseUnitsMatchesDigitStringModel", spec := "fnParseUnitsMatchesDigitStringModel", apart := false }
def FnParseUnitsMatchesDigitStringModelSaid : Prop := fnParseUnitsMatchesDigitStringModelRow.holds Try.pinned (OpenSpec.ofChange fnParseUnitsMatchesDigitStringModelSpec)

/-- ITS FALSE NEIGHBOUR: 'it returns false'. Refute it at one input. -/
def fnParseUnitsMatchesDigitStringModelWrong : ChangeSpec := { name := "fnParseUnitsMatchesDigitStringModel", fn := fun _ => fun
  | [d1, d2] => { results := [.lit (.bool false)], args := [d1, d2] }
  | _ => none }
def FnParseUnitsMatchesDigitStringModelWrongFalsely : Prop := fnParseUnitsMatchesDigitStringModelRow.holds Try.pinned (OpenSpec.ofChange fnParseUnitsMatchesDigitStringModelWrong)

/-- 'zzlaws_root_b1.FnParseUnitsOneMorePlaceIsTenTimes': WHATEVER THE INPUT: true; the input reads as it did. -/
def fnParseUnitsOneMorePlaceIsTenTimesSpec : ChangeSpec := { name := "fnParseUnitsOneMorePlaceIsTenTimes", fn := fun _ => fun
  | [d1, d2] => { results := [.lit (.bool true)], args := [d1, d2] }
  | _ => none }
def fnParseUnitsOneMorePlaceIsTenTimesRow : OpenClaim := { program := "qxb6600508a", sum := "d59e0c374517a541222b2fbda0ba75c8d51ca22f716b2b3aa4ce28ea2b8755d0", func := "example.com/zhaomu/zhaomu/zzlaws_root_b1.FnParseUnitsOneMorePlaceIsTenTimes", spec := "fnParseUnitsOneMorePlaceIsTenTimes", apart := false }
def FnParseUnitsOneMorePlaceIsTenTimesSaid : Prop := fnParseUnitsOneMorePlaceIsTenTimesRow.holds Try.pinned (OpenSpec.ofChange fnParseUnitsOneMorePlaceIsTenTimesSpec)

/-- ITS FALSE NEIGHBOUR: 'it returns false'. Refute it at one input. -/
def fnParseUnitsOneMorePlaceIsTenTimesWrong : ChangeSpec := { name := "fnParseUnitsOneMorePlaceIsTenTimes", fn := fun _ => fun
  | [d1, d2] => { results := [.lit (.bool false)], args := [d1, d2] }
  | _ => none }
def FnParseUnitsOneMorePlaceIsTenTimesWrongFalsely : Prop := fnParseUnitsOneMorePlaceIsTenTimesRow.holds Try.pinned (OpenSpec.ofChange fnParseUnitsOneMorePlaceIsTenTimesWrong)

/-- 'zzlaws_root_b1.FnParseUnitsReadsBackFormattedUnits': WHATEVER THE INPUT: true; the input reads as it did. -/
def fnParseUnitsReadsBackFormattedUnitsSpec : ChangeSpec := { name := "fnParseUnitsReadsBackFormattedUnits", fn := fun _ => fun
  | [d1, d2] => { results := [.lit (.bool true)], args := [d1, d2] }
  | _ => none }
def fnParseUnitsReadsBackFormattedUnitsRow : OpenClaim := { program := "qxb6600508a", sum := "d59e0c374517a541222b2fbda0ba75c8d51ca22f716b2b3aa4ce28ea2b8755d0", func := "example.com/zhaomu/zhaomu/zzlaws_root_b1.FnParseUnitsReadsBackFormattedUnits", spec := "fnParseUnitsReadsBackFormattedUnits", apart := false }
def FnParseUnitsReadsBackFormattedUnitsSaid : Prop := fnParseUnitsReadsBackFormattedUnitsRow.holds Try.pinned (OpenSpec.ofChange fnParseUnitsReadsBackFormattedUnitsSpec)

/-- ITS FALSE NEIGHBOUR: 'it returns false'. Refute it at one input. -/
def fnParseUnitsReadsBackFormattedUnitsWrong : ChangeSpec := { name := "fnParseUnitsReadsBackFormattedUnits", fn := fun _ => fun
  | [d1, d2] => { results := [.lit (.bool false)], args := [d1, d2] }
  | _ => none }
def FnParseUnitsReadsBackFormattedUnitsWrongFalsely : Prop := fnParseUnitsReadsBackFormattedUnitsRow.holds Try.pinned (OpenSpec.ofChange fnParseUnitsReadsBackFormattedUnitsWrong)

/-- 'zzlaws_root_b1.FnCompareUnitSumsMatchesBiasedByteOrder': WHATEVER THE INPUT: true; the input reads as it did. -/
def fnCompareUnitSumsMatchesBiasedByteOrderSpec : ChangeSpec := { name := "fnCompareUnitSumsMatchesBiasedByteOrder", fn := fun _ => fun
  | [d1, d2, d3, d4] => { results := [.lit (.bool true)], args := [d1, d2, d3, d4] }
  | _ => none }
def fnCompareUnitSumsMatchesBiasedByteOrderRow : OpenClaim := { program := "qxb6600508a", sum := "d59e0c374517a541222b2fbda0ba75c8d51ca22f716b2b3aa4ce28ea2b8755d0", func := "example.com/zhaomu/zhaomu/zzlaws_root_b1.FnCompareUnitSumsMatchesBiasedByteOrder", spec := "fnCompareUnitSumsMatchesBiasedByteOrder", apart := false }
def FnCompareUnitSumsMatchesBiasedByteOrderSaid : Prop := fnCompareUnitSumsMatchesBiasedByteOrderRow.holds Try.pinned (OpenSpec.ofChange fnCompareUnitSumsMatchesBiasedByteOrderSpec)

/-- ITS FALSE NEIGHBOUR: 'it returns false'. Refute it at one input. -/
def fnCompareUnitSumsMatchesBiasedByteOrderWrong : ChangeSpec := { name := "fnCompareUnitSumsMatchesBiasedByteOrder", fn := fun _ => fun
  | [d1, d2, d3, d4] => { results := [.lit (.bool false)], args := [d1, d2, d3, d4] }
  | _ => none }
def FnCompareUnitSumsMatchesBiasedByteOrderWrongFalsely : Prop := fnCompareUnitSumsMatchesBiasedByteOrderRow.holds Try.pinned (OpenSpec.ofChange fnCompareUnitSumsMatchesBiasedByteOrderWrong)

/-- 'zzlaws_root_b1.FnCompareUnitSumsAgreesWithInt64': WHATEVER THE INPUT: true; the input reads as it did. -/
def fnCompareUnitSumsAgreesWithInt64Spec : ChangeSpec := { name := "fnCompareUnitSumsAgreesWithInt64", fn := fun _ => fun
  | [d1, d2] => { results := [.lit (.bool true)], args := [d1, d2] }
  | _ => none }
def fnCompareUnitSumsAgreesWithInt64Row : OpenClaim := { program := "qxb6600508a", sum := "d59e0c374517a541222b2fbda0ba75c8d51ca22f716b2b3aa4ce28ea2b8755d0", func := "example.com/zhaomu/zhaomu/zzlaws_root_b1.FnCompareUnitSumsAgreesWithInt64", spec := "fnCompareUnitSumsAgreesWithInt64", apart := false }
def FnCompareUnitSumsAgreesWithInt64Said : Prop := fnCompareUnitSumsAgreesWithInt64Row.holds Try.pinned (OpenSpec.ofChange fnCompareUnitSumsAgreesWithInt64Spec)

/-- ITS FALSE NEIGHBOUR: 'it returns false'. Refute it at one input. -/
def fnCompareUnitSumsAgreesWithInt64Wrong : ChangeSpec := { name := "fnCompareUnitSumsAgreesWithInt64", fn := fun _ => fun
  | [d1, d2] => { results := [.lit (.bool false)], args := [d1, d2] }
  | _ => none }
def FnCompareUnitSumsAgreesWithInt64WrongFalsely : Prop := fnCompareUnitSumsAgreesWithInt64Row.holds Try.pinned (OpenSpec.ofChange fnCompareUnitSumsAgreesWithInt64Wrong)

/-- 'zzlaws_root_b1.FnCompareUnitSumsIsAntisymmetric': WHATEVER THE INPUT: true; the input reads as it did. -/
def fnCompareUnitSumsIsAntisymmetricSpec : ChangeSpec := { name := "fnCompareUnitSumsIsAntisymmetric", fn := fun _ => fun
  | [d1, d2, d3, d4] => { results := [.lit (.bool true)], args := [d1, d2, d3, d4] }
  | _ => none }
def fnCompareUnitSumsIsAntisymmetricRow : OpenClaim := { program := "qxb6600508a", sum := "d59e0c374517a541222b2fbda0ba75c8d51ca22f716b2b3aa4ce28ea2b8755d0", func := "example.com/zhaomu/zhaomu/zzlaws_root_b1.FnCompareUnitSumsIsAntisymmetric", spec := "fnCompareUnitSumsIsAntisymmetric", apart := false }
def FnCompareUnitSumsIsAntisymmetricSaid : Prop := fnCompareUnitSumsIsAntisymmetricRow.holds Try.pinned (OpenSpec.ofChange fnCompareUnitSumsIsAntisymmetricSpec)

/-- ITS FALSE NEIGHBOUR: 'it returns false'. Refute it at one input. -/
def fnCompareUnitSumsIsAntisymmetricWrong : ChangeSpec := { name := "fnCompareUnitSumsIsAntisymmetric", fn := fun _ => fun
  | [d1, d2, d3, d4] => { results := [.lit (.bool false)], args := [d1, d2, d3, d4] }
  | _ => none }
def FnCompareUnitSumsIsAntisymmetricWrongFalsely : Prop := fnCompareUnitSumsIsAntisymmetricRow.holds Try.pinned (OpenSpec.ofChange fnCompareUnitSumsIsAntisymmetricWrong)

end Rows
end Go.Proofs.Qxb6600508a
