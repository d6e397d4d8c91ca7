/-
  No cell of these rows narrows 'for every input' (looked for: loops, veiled, ifaces, maps, wideKeys, modest, calm, conditions, laid).
  DERIVED. THE GIVEN ROWS OF THIS SEAT. 4 by the template 'for every input the law returns true; each argument reads behind the call as it read before'; 0 by the template 'total and deterministic' (their statements: Qxb6602833aTotals.lean).
  GIVEN WITH THE SEED: the statements are not yours to turn. If you find one false, say at which input.
  Laid BY PROGRAM, IN A SANDBOX (cutbox-rows.mjs): the forced cells as the released guide's own fill.sh prints them over the translation b32798d8cab48482… (all of the seat's roots in one cut). By AI agents, Wed Nov 11 2026. No macro, syntax, notation, axiom, sorry.
-/
import Derived.Test.Qxb6602833aChecked
import GoSem.Claim
import GoSem.ClaimJoined
import GoSem.ClaimMapViews
import Derived.JoinedTies
import Derived.KernelRfl
namespace Go.Proofs.Qxb6602833a
/- THE CELL 'sum', in the pinned program and in every row, IS THE sha256 OF THE DUMP (.gsa) THAT Qxb6602833aProg.lean LOADS. Nothing in Lean hashes anything: it is a label: what it is worth is what the hold of that sum in a sandbox is worth. -/
noncomputable def Try.pinned : Pinned := { name := "qxb6602833a", sum := "b32798d8cab48482bd1d4f375ececfec9936f5bd51e31fc3f8f32a83b56e797e", checked := Try.checked }
namespace Rows
def none {H : Type} : Left H := { results := [], args := [] }

/-- 'zzlaws_pkg_plan_b1.FnDigitsModel': WHATEVER THE INPUT: true; the input reads as it did. -/
def fnDigitsModelSpec : ChangeSpec := { name := "fnDigitsModel", fn := fun _ => fun
  | [d1, d2, d3] => { results := [.lit (.bool true)], args := [d1, d2, d3] }
  | _ => none }
def fnDigitsModelRow : OpenClaim := { program := "qxb6602833a", sum := "b32798d8cab48482bd1d4f375ececfec9936f5bd51e31fc3f8f32a83b56e797e", func := "example.com/vestwright/vestwright/zzlaws_pkg_plan_b1.FnDigitsModel", spec := "fnDigitsModel", apart := false }
def FnDigitsModelSaid : Prop := fnDigitsModelRow.holds Try.pinned (OpenSpec.ofChange fnDigitsModelSpec)

/-- ITS FALSE NEIGHBOUR: 'it returns false'. Refute it at one input. -/
def fnDigitsModelWrong : ChangeSpec := { name := "fnDigitsModel", fn := fun _ => fun
  | [d1, d2, d3] => { results := [.lit (.bool false)], args := [d1, d2, d3] }
  | _ => none }
def FnDigitsModelWrongFalsely : Prop := fnDigitsModelRow.holds Try.pinned (OpenSpec.ofChange fnDigitsModelWrong)

/-- 'zzlaws_pkg_plan_b1.FnDigitsSplit': WHATEVER THE INPUT: true; the input reads as it did. -/
def fnDigitsSplitSpec : ChangeSpec := { name := "fnDigitsSplit", fn := fun _ => fun
  | [d1, d2, d3, d4] => { results := [.lit (.bool true)], args := [d1, d2, d3, d4] }
  | _ => none }
def fnDigitsSplitRow : OpenClaim := { program := "qxb6602833a", sum := "b32798d8cab48482bd1d4f375ececfec9936f5bd51e31fc3f8f32a83b56e797e", func := "example.com/vestwright/vestwright/zzlaws_pkg_plan_b1.FnDigitsSplit", spec := "fnDigitsSplit", apart := false }
def FnDigitsSplitSaid : Prop := fnDigitsSplitRow.holds Try.pinned (OpenSpec.ofChange fnDigitsSplitSpec)

/-- ITS FALSE NEIGHBOUR: 'it returns false'. Refute it at one input. -/
def fnDigitsSplitWrong : ChangeSpec := { name := "fnDigitsSplit", fn := fun _ => fun
  | [d1, d2, d3, d4] => { results := [.lit (.bool false)], args := [d1, d2, d3, d4] }
  | _ => none }
def FnDigitsSplitWrongFalsely : Prop := fnDigitsSplitRow.holds Try.pinned (OpenSpec.ofChange fnDigitsSplitWrong)

/-- 'zzlaws_pkg_plan_b1.FnDigitsShift': WHATEVER THE INPUT: true; the input reads as it did. -/
def fnDigitsShiftSpec : ChangeSpec := { name := "fnDigitsShift", fn := fun _ => fun
  | [d1, d2, d3, d4] => { results := [.lit (.bool true)], args := [d1, d2, d3, d4] }
  | _ => none }
def fnDigitsShiftRow : OpenClaim := { program := "qxb6602833a", sum := "b32798d8cab48482bd1d4f375ececfec9936f5bd51e31fc3f8f32a83b56e797e", func := "example.com/vestwright/vestwright/zzlaws_pkg_plan_b1.FnDigitsShift", spec := "fnDigitsShift", apart := false }
def FnDigitsShiftSaid : Prop := fnDigitsShiftRow.holds Try.pinned (OpenSpec.ofChange fnDigitsShiftSpec)

/-- ITS FALSE NEIGHBOUR: 'it returns false'. Refute it at one input. -/
def fnDigitsShiftWrong : ChangeSpec := { name := "fnDigitsShift", fn := fun _ => fun
  | [d1, d2, d3, d4] => { results := [.lit (.bool false)], args := [d1, d2, d3, d4] }
  | _ => none }
def FnDigitsShiftWrongFalsely : Prop := fnDigitsShiftRow.holds Try.pinned (OpenSpec.ofChange fnDigitsShiftWrong)

/-- 'zzlaws_pkg_plan_b1.FnFateFixedPoint': WHATEVER THE INPUT: true; the input reads as it did. -/
def fnFateFixedPointSpec : ChangeSpec := { name := "fnFateFixedPoint", fn := fun _ => fun
  | [d] => { results := [.lit (.bool true)], args := [d] }
  | _ => none }
def fnFateFixedPointRow : OpenClaim := { program := "qxb6602833a", sum := "b32798d8cab48482bd1d4f375ececfec9936f5bd51e31fc3f8f32a83b56e797e", func := "example.com/vestwright/vestwright/zzlaws_pkg_plan_b1.FnFateFixedPoint", spec := "fnFateFixedPoint", apart := false }
def FnFateFixedPointSaid : Prop := fnFateFixedPointRow.holds Try.pinned (OpenSpec.ofChange fnFateFixedPointSpec)

/-- ITS FALSE NEIGHBOUR: 'it returns false'. Refute it at one input. -/
def fnFateFixedPointWrong : ChangeSpec := { name := "fnFateFixedPoint", fn := fun _ => fun
  | [d] => { results := [.lit (.bool false)], args := [d] }
  | _ => none }
def FnFateFixedPointWrongFalsely : Prop := fnFateFixedPointRow.holds Try.pinned (OpenSpec.ofChange fnFateFixedPointWrong)

end Rows
end Go.Proofs.Qxb6602833a
