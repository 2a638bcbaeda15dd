/-
  No cell of these rows narrows 'for every input' (looked for: loops, veiled, ifaces, maps, wideKeys, modest, calm, conditions, laid).
  DERIVED. THE GIVEN ROWS OF THIS SEAT. 6 by the template 'for every input the law returns true; each argument reads behind the call as it read before'; 0 by the template 'total and deterministic' (their statements: Qxb6002680aTotals.lean).
  GIVEN WITH THE SEED: the statements are not yours to turn. If you find one false, say at which input.
  Laid BY PROGRAM, IN A SANDBOX (cutbox-rows.mjs): the forced cells as the released guide's own fill.sh prints them over the translation 2df0d71ed2274b5c… (all of the seat's roots in one cut). By AI agents, Wed Nov 11 2026. No macro, syntax, notation, axiom, sorry.
-/
import Derived.Test.Qxb6002680aChecked
import GoSem.Claim
import GoSem.ClaimJoined
import GoSem.ClaimMapViews
import Derived.JoinedTies
import Derived.KernelRfl
namespace Go.Proofs.Qxb6002680a
/- THE CELL 'sum', in the pinned program and in every row, IS THE sha256 OF THE DUMP (.gsa) THAT Qxb6002680aProg.lean LOADS. Nothing in Lean hashes anything: it is a label: what it is worth is what the hold of that sum in a sandbox is worth. -/
noncomputable def Try.pinned : Pinned := { name := "qxb6002680a", sum := "2df0d71ed2274b5ca5b9488056eb3ef313b144c857d1e0554def7d107c2b29bf", checked := Try.checked }
namespace Rows
def none {H : Type} : Left H := { results := [], args := [] }

/-- 'zzlaws_eventtime_b1.FnHasShapeLiteralShapeIsEquality': WHATEVER THE INPUT: true; the input reads as it did. -/
def fnHasShapeLiteralShapeIsEqualitySpec : ChangeSpec := { name := "fnHasShapeLiteralShapeIsEquality", fn := fun _ => fun
  | [d1, d2] => { results := [.lit (.bool true)], args := [d1, d2] }
  | _ => none }
def fnHasShapeLiteralShapeIsEqualityRow : OpenClaim := { program := "qxb6002680a", sum := "2df0d71ed2274b5ca5b9488056eb3ef313b144c857d1e0554def7d107c2b29bf", func := "example.com/logkeel/logkeel/zzlaws_eventtime_b1.FnHasShapeLiteralShapeIsEquality", spec := "fnHasShapeLiteralShapeIsEquality", apart := false }
def FnHasShapeLiteralShapeIsEqualitySaid : Prop := fnHasShapeLiteralShapeIsEqualityRow.holds Try.pinned (OpenSpec.ofChange fnHasShapeLiteralShapeIsEqualitySpec)

/-- ITS FALSE NEIGHBOUR: 'it returns false'. Refute it at one input. -/
def fnHasShapeLiteralShapeIsEqualityWrong : ChangeSpec := { name := "fnHasShapeLiteralShapeIsEquality", fn := fun _ => fun
  | [d1, d2] => { results := [.lit (.bool false)], args := [d1, d2] }
  | _ => none }
def FnHasShapeLiteralShapeIsEqualityWrongFalsely : Prop := fnHasShapeLiteralShapeIsEqualityRow.holds Try.pinned (OpenSpec.ofChange fnHasShapeLiteralShapeIsEqualityWrong)

/-- 'zzlaws_eventtime_b1.FnHasShapeOwnDigitMask': WHATEVER THE INPUT: true; the input reads as it did. -/
def fnHasShapeOwnDigitMaskSpec : ChangeSpec := { name := "fnHasShapeOwnDigitMask", fn := fun _ => fun
  | [d] => { results := [.lit (.bool true)], args := [d] }
  | _ => none }
def fnHasShapeOwnDigitMaskRow : OpenClaim := { program := "qxb6002680a", sum := "2df0d71ed2274b5ca5b9488056eb3ef313b144c857d1e0554def7d107c2b29bf", func := "example.com/logkeel/logkeel/zzlaws_eventtime_b1.FnHasShapeOwnDigitMask", spec := "fnHasShapeOwnDigitMask", apart := false }
def FnHasShapeOwnDigitMaskSaid : Prop := fnHasShapeOwnDigitMaskRow.holds Try.pinned (OpenSpec.ofChange fnHasShapeOwnDigitMaskSpec)

/-- ITS FALSE NEIGHBOUR: 'it returns false'. Refute it at one input. -/
def fnHasShapeOwnDigitMaskWrong : ChangeSpec := { name := "fnHasShapeOwnDigitMask", fn := fun _ => fun
  | [d] => { results := [.lit (.bool false)], args := [d] }
  | _ => none }
def FnHasShapeOwnDigitMaskWrongFalsely : Prop := fnHasShapeOwnDigitMaskRow.holds Try.pinned (OpenSpec.ofChange fnHasShapeOwnDigitMaskWrong)

/-- 'zzlaws_eventtime_b1.FnHasShapeConcatenation': WHATEVER THE INPUT: true; the input reads as it did. -/
def fnHasShapeConcatenationSpec : ChangeSpec := { name := "fnHasShapeConcatenation", fn := fun _ => fun
  | [d1, d2, d3, d4] => { results := [.lit (.bool true)], args := [d1, d2, d3, d4] }
  | _ => none }
def fnHasShapeConcatenationRow : OpenClaim := { program := "qxb6002680a", sum := "2df0d71ed2274b5ca5b9488056eb3ef313b144c857d1e0554def7d107c2b29bf", func := "example.com/logkeel/logkeel/zzlaws_eventtime_b1.FnHasShapeConcatenation", spec := "fnHasShapeConcatenation", apart := false }
def FnHasShapeConcatenationSaid : Prop := fnHasShapeConcatenationRow.holds Try.pinned (OpenSpec.ofChange fnHasShapeConcatenationSpec)

/-- ITS FALSE NEIGHBOUR: 'it returns false'. Refute it at one input. -/
def fnHasShapeConcatenationWrong : ChangeSpec := { name := "fnHasShapeConcatenation", fn := fun _ => fun
  | [d1, d2, d3, d4] => { results := [.lit (.bool false)], args := [d1, d2, d3, d4] }
  | _ => none }
def FnHasShapeConcatenationWrongFalsely : Prop := fnHasShapeConcatenationRow.holds Try.pinned (OpenSpec.ofChange fnHasShapeConcatenationWrong)

/-- 'zzlaws_eventtime_b1.FnFractionReadsWrittenDigits': WHATEVER THE INPUT: true; the input reads as it did. -/
def fnFractionReadsWrittenDigitsSpec : ChangeSpec := { name := "fnFractionReadsWrittenDigits", fn := fun _ => fun
  | [d1, d2, d3] => { results := [.lit (.bool true)], args := [d1, d2, d3] }
  | _ => none }
def fnFractionReadsWrittenDigitsRow : OpenClaim := { program := "qxb6002680a", sum := "2df0d71ed2274b5ca5b9488056eb3ef313b144c857d1e0554def7d107c2b29bf", func := "example.com/logkeel/logkeel/zzlaws_eventtime_b1.FnFractionReadsWrittenDigits", spec := "fnFractionReadsWrittenDigits", apart := false }
def FnFractionReadsWrittenDigitsSaid : Prop := fnFractionReadsWrittenDigitsRow.holds Try.pinned (OpenSpec.ofChange fnFractionReadsWrittenDigitsSpec)

/-- ITS FALSE NEIGHBOUR: 'it returns false'. Refute it at one input. -/
def fnFractionReadsWrittenDigitsWrong : ChangeSpec := { name := "fnFractionReadsWrittenDigits", fn := fun _ => fun
  | [d1, d2, d3] => { results := [.lit (.bool false)], args := [d1, d2, d3] }
  | _ => none }
def FnFractionReadsWrittenDigitsWrongFalsely : Prop := fnFractionReadsWrittenDigitsRow.holds Try.pinned (OpenSpec.ofChange fnFractionReadsWrittenDigitsWrong)

/-- 'zzlaws_eventtime_b1.FnFractionWidthTakesExactlyWidthDigits': WHATEVER THE INPUT: true; the input reads as it did. -/
def fnFractionWidthTakesExactlyWidthDigitsSpec : ChangeSpec := { name := "fnFractionWidthTakesExactlyWidthDigits", fn := fun _ => fun
  | [d1, d2] => { results := [.lit (.bool true)], args := [d1, d2] }
  | _ => none }
def fnFractionWidthTakesExactlyWidthDigitsRow : OpenClaim := { program := "qxb6002680a", sum := "2df0d71ed2274b5ca5b9488056eb3ef313b144c857d1e0554def7d107c2b29bf", func := "example.com/logkeel/logkeel/zzlaws_eventtime_b1.FnFractionWidthTakesExactlyWidthDigits", spec := "fnFractionWidthTakesExactlyWidthDigits", apart := false }
def FnFractionWidthTakesExactlyWidthDigitsSaid : Prop := fnFractionWidthTakesExactlyWidthDigitsRow.holds Try.pinned (OpenSpec.ofChange fnFractionWidthTakesExactlyWidthDigitsSpec)

/-- ITS FALSE NEIGHBOUR: 'it returns false'. Refute it at one input. -/
def fnFractionWidthTakesExactlyWidthDigitsWrong : ChangeSpec := { name := "fnFractionWidthTakesExactlyWidthDigits", fn := fun _ => fun
  | [d1, d2] => { results := [.lit (.bool false)], args := [d1, d2] }
  | _ => none }
def FnFractionWidthTakesExactlyWidthDigitsWrongFalsely : Prop := fnFractionWidthTakesExactlyWidthDigitsRow.holds Try.pinned (OpenSpec.ofChange fnFractionWidthTakesExactlyWidthDigitsWrong)

/-- 'zzlaws_eventtime_b1.FnFractionBounds': WHATEVER THE INPUT: true; the input reads as it did. -/
def fnFractionBoundsSpec : ChangeSpec := { name := "fnFractionBounds", fn := fun _ => fun
  | [d1, d2, d3] => { results := [.lit (.bool true)], args := [d1, d2, d3] }
  | _ => none }
def fnFractionBoundsRow : OpenClaim := { program := "qxb6002680a", sum := "2df0d71ed2274b5ca5b9488056eb3ef313b144c857d1e0554def7d107c2b29bf", func := "example.com/logkeel/logkeel/zzlaws_eventtime_b1.FnFractionBounds", spec := "fnFractionBounds", apart := false }
def FnFractionBoundsSaid : Prop := fnFractionBoundsRow.holds Try.pinned (OpenSpec.ofChange fnFractionBoundsSpec)

/-- ITS FALSE NEIGHBOUR: 'it returns false'. Refute it at one input. -/
def fnFractionBoundsWrong : ChangeSpec := { name := "fnFractionBounds", fn := fun _ => fun
  | [d1, d2, d3] => { results := [.lit (.bool false)], args := [d1, d2, d3] }
  | _ => none }
def FnFractionBoundsWrongFalsely : Prop := fnFractionBoundsRow.holds Try.pinned (OpenSpec.ofChange fnFractionBoundsWrong)

end Rows
end Go.Proofs.Qxb6002680a
