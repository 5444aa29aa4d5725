/-
  No cell of these rows narrows 'for every input' (looked for: loops, veiled, ifaces, maps, wideKeys, modest, calm, conditions, laid).
  DERIVED. THE GIVEN ROWS OF THIS SEAT. 7 by the template 'for every input the law returns true; each argument reads behind the call as it read before'; 0 by the template 'total and deterministic' (their statements: Qxb6601403aTotals.lean).
  GIVEN WITH THE SEED: the statements are not yours to turn. If you find one false, say at which input.
  Laid BY PROGRAM, IN A SANDBOX (cutbox-rows.mjs): the forced cells as the released guide's own fill.sh prints them over the translation a0e6800539696573… (all of the seat's roots in one cut). By AI agents, Wed Nov 11 2026. No macro, syntax, notation, axiom, sorry.
-/
import Derived.Test.Qxb6601403aChecked
import GoSem.Claim
import GoSem.ClaimJoined
import GoSem.ClaimMapViews
import Derived.JoinedTies
import Derived.KernelRfl
namespace Go.Proofs.Qxb6601403a
/- THE CELL 'sum', in the pinned program and in every row, IS THE sha256 OF THE DUMP (.gsa) THAT Qxb6601403aProg.lean LOADS. Nothing in Lean hashes anything: it is a label: what it is worth is what the hold of that sum in a sandbox is worth. -/
noncomputable def Try.pinned : Pinned := { name := "qxb6601403a", sum := "a0e680053969657314bbaad5d66bfc3c756a4a391fd0c59f41f07768214f18bd", checked := Try.checked }
namespace Rows
def none {H : Type} : Left H := { results := [], args := [] }

/-- 'zzlaws_internal_money_b1.FnKindOfHangsOnFirstByteAlone': WHATEVER THE INPUT: true; the input reads as it did. -/
def fnKindOfHangsOnFirstByteAloneSpec : ChangeSpec := { name := "fnKindOfHangsOnFirstByteAlone", fn := fun _ => fun
  | [d] => { results := [.lit (.bool true)], args := [d] }
  | _ => none }
def fnKindOfHangsOnFirstByteAloneRow : OpenClaim := { program := "qxb6601403a", sum := "a0e680053969657314bbaad5d66bfc3c756a4a391fd0c59f41f07768214f18bd", func := "example.com/lastro/lastro/zzlaws_internal_money_b1.FnKindOfHangsOnFirstByteAlone", spec := "fnKindOfHangsOnFirstByteAlone", apart := false }
def FnKindOfHangsOnFirstByteAloneSaid : Prop := fnKindOfHangsOnFirstByteAloneRow.holds Try.pinned (OpenSpec.ofChange fnKindOfHangsOnFirstByteAloneSpec)

/-- ITS FALSE NEIGHBOUR: 'it returns false'. Refute it at one input. -/
def fnKindOfHangsOnFirstByteAloneWrong : ChangeSpec := { name := "fnKindOfHangsOnFirstByteAlone", fn := fun _ => fun
  | [d] => { results := [.lit (.bool false)], args := [d] }
  | _ => none }
def FnKindOfHangsOnFirstByteAloneWrongFalsely : Prop := fnKindOfHangsOnFirstByteAloneRow.holds Try.pinned (OpenSpec.ofChange fnKindOfHangsOnFirstByteAloneWrong)

/-- 'zzlaws_internal_money_b1.FnAllDigitsMatchesByteClassCount': WHATEVER THE INPUT: true; the input reads as it did. -/
def fnAllDigitsMatchesByteClassCountSpec : ChangeSpec := { name := "fnAllDigitsMatchesByteClassCount", fn := fun _ => fun
  | [d] => { results := [.lit (.bool true)], args := [d] }
  | _ => none }
def fnAllDigitsMatchesByteClassCountRow : OpenClaim := { program := "qxb6601403a", sum := "a0e680053969657314bbaad5d66bfc3c756a4a391fd0c59f41f07768214f18bd", func := "example.com/lastro/lastro/zzlaws_internal_money_b1.FnAllDigitsMatchesByteClassCount", spec := "fnAllDigitsMatchesByteClassCount", apart := false }
def FnAllDigitsMatchesByteClassCountSaid : Prop := fnAllDigitsMatchesByteClassCountRow.holds Try.pinned (OpenSpec.ofChange fnAllDigitsMatchesByteClassCountSpec)

/-- ITS FALSE NEIGHBOUR: 'it returns false'. Refute it at one input. -/
def fnAllDigitsMatchesByteClassCountWrong : ChangeSpec := { name := "fnAllDigitsMatchesByteClassCount", fn := fun _ => fun
  | [d] => { results := [.lit (.bool false)], args := [d] }
  | _ => none }
def FnAllDigitsMatchesByteClassCountWrongFalsely : Prop := fnAllDigitsMatchesByteClassCountRow.holds Try.pinned (OpenSpec.ofChange fnAllDigitsMatchesByteClassCountWrong)

/-- 'zzlaws_internal_money_b1.FnAllDigitsSplitsOverConcatenation': WHATEVER THE INPUT: true; the input reads as it did. -/
def fnAllDigitsSplitsOverConcatenationSpec : ChangeSpec := { name := "fnAllDigitsSplitsOverConcatenation", fn := fun _ => fun
  | [d1, d2] => { results := [.lit (.bool true)], args := [d1, d2] }
  | _ => none }
def fnAllDigitsSplitsOverConcatenationRow : OpenClaim := { program := "qxb6601403a", sum := "a0e680053969657314bbaad5d66bfc3c756a4a391fd0c59f41f07768214f18bd", func := "example.com/lastro/lastro/zzlaws_internal_money_b1.FnAllDigitsSplitsOverConcatenation", spec := "fnAllDigitsSplitsOverConcatenation", apart := false }
def FnAllDigitsSplitsOverConcatenationSaid : Prop := fnAllDigitsSplitsOverConcatenationRow.holds Try.pinned (OpenSpec.ofChange fnAllDigitsSplitsOverConcatenationSpec)

/-- ITS FALSE NEIGHBOUR: 'it returns false'. Refute it at one input. -/
def fnAllDigitsSplitsOverConcatenationWrong : ChangeSpec := { name := "fnAllDigitsSplitsOverConcatenation", fn := fun _ => fun
  | [d1, d2] => { results := [.lit (.bool false)], args := [d1, d2] }
  | _ => none }
def FnAllDigitsSplitsOverConcatenationWrongFalsely : Prop := fnAllDigitsSplitsOverConcatenationRow.holds Try.pinned (OpenSpec.ofChange fnAllDigitsSplitsOverConcatenationWrong)

/-- 'zzlaws_internal_money_b1.FnAllDigitsAcceptsDecimalRenderingRefusesSign': WHATEVER THE INPUT: true; the input reads as it did. -/
def fnAllDigitsAcceptsDecimalRenderingRefusesSignSpec : ChangeSpec := { name := "fnAllDigitsAcceptsDecimalRenderingRefusesSign", fn := fun _ => fun
  | [d] => { results := [.lit (.bool true)], args := [d] }
  | _ => none }
def fnAllDigitsAcceptsDecimalRenderingRefusesSignRow : OpenClaim := { program := "qxb6601403a", sum := "a0e680053969657314bbaad5d66bfc3c756a4a391fd0c59f41f07768214f18bd", func := "example.com/lastro/lastro/zzlaws_internal_money_b1.FnAllDigitsAcceptsDecimalRenderingRefusesSign", spec := "fnAllDigitsAcceptsDecimalRenderingRefusesSign", apart := false }
def FnAllDigitsAcceptsDecimalRenderingRefusesSignSaid : Prop := fnAllDigitsAcceptsDecimalRenderingRefusesSignRow.holds Try.pinned (OpenSpec.ofChange fnAllDigitsAcceptsDecimalRenderingRefusesSignSpec)

/-- ITS FALSE NEIGHBOUR: 'it returns false'. Refute it at one input. -/
def fnAllDigitsAcceptsDecimalRenderingRefusesSignWrong : ChangeSpec := { name := "fnAllDigitsAcceptsDecimalRenderingRefusesSign", fn := fun _ => fun
  | [d] => { results := [.lit (.bool false)], args := [d] }
  | _ => none }
def FnAllDigitsAcceptsDecimalRenderingRefusesSignWrongFalsely : Prop := fnAllDigitsAcceptsDecimalRenderingRefusesSignRow.holds Try.pinned (OpenSpec.ofChange fnAllDigitsAcceptsDecimalRenderingRefusesSignWrong)

/-- 'zzlaws_internal_money_b1.FnPercentOfWithinOneOfExactQuotient': WHATEVER THE INPUT: true; the input reads as it did. -/
def fnPercentOfWithinOneOfExactQuotientSpec : ChangeSpec := { name := "fnPercentOfWithinOneOfExactQuotient", fn := fun _ => fun
  | [d1, d2, d3] => { results := [.lit (.bool true)], args := [d1, d2, d3] }
  | _ => none }
def fnPercentOfWithinOneOfExactQuotientRow : OpenClaim := { program := "qxb6601403a", sum := "a0e680053969657314bbaad5d66bfc3c756a4a391fd0c59f41f07768214f18bd", func := "example.com/lastro/lastro/zzlaws_internal_money_b1.FnPercentOfWithinOneOfExactQuotient", spec := "fnPercentOfWithinOneOfExactQuotient", apart := false }
def FnPercentOfWithinOneOfExactQuotientSaid : Prop := fnPercentOfWithinOneOfExactQuotientRow.holds Try.pinned (OpenSpec.ofChange fnPercentOfWithinOneOfExactQuotientSpec)

/-- ITS FALSE NEIGHBOUR: 'it returns false'. Refute it at one input. -/
def fnPercentOfWithinOneOfExactQuotientWrong : ChangeSpec := { name := "fnPercentOfWithinOneOfExactQuotient", fn := fun _ => fun
  | [d1, d2, d3] => { results := [.lit (.bool false)], args := [d1, d2, d3] }
  | _ => none }
def FnPercentOfWithinOneOfExactQuotientWrongFalsely : Prop := fnPercentOfWithinOneOfExactQuotientRow.holds Try.pinned (OpenSpec.ofChange fnPercentOfWithinOneOfExactQuotientWrong)

/-- 'zzlaws_internal_money_b1.FnPercentOfIsOdd': WHATEVER THE INPUT: true; the input reads as it did. -/
def fnPercentOfIsOddSpec : ChangeSpec := { name := "fnPercentOfIsOdd", fn := fun _ => fun
  | [d1, d2, d3] => { results := [.lit (.bool true)], args := [d1, d2, d3] }
  | _ => none }
def fnPercentOfIsOddRow : OpenClaim := { program := "qxb6601403a", sum := "a0e680053969657314bbaad5d66bfc3c756a4a391fd0c59f41f07768214f18bd", func := "example.com/lastro/lastro/zzlaws_internal_money_b1.FnPercentOfIsOdd", spec := "fnPercentOfIsOdd", apart := false }
def FnPercentOfIsOddSaid : Prop := fnPercentOfIsOddRow.holds Try.pinned (OpenSpec.ofChange fnPercentOfIsOddSpec)

/-- ITS FALSE NEIGHBOUR: 'it returns false'. Refute it at one input. -/
def fnPercentOfIsOddWrong : ChangeSpec := { name := "fnPercentOfIsOdd", fn := fun _ => fun
  | [d1, d2, d3] => { results := [.lit (.bool false)], args := [d1, d2, d3] }
  | _ => none }
def FnPercentOfIsOddWrongFalsely : Prop := fnPercentOfIsOddRow.holds Try.pinned (OpenSpec.ofChange fnPercentOfIsOddWrong)

/-- 'zzlaws_internal_money_b1.FnPercentOfShiftsByWholeBlock': WHATEVER THE INPUT: true; the input reads as it did. -/
def fnPercentOfShiftsByWholeBlockSpec : ChangeSpec := { name := "fnPercentOfShiftsByWholeBlock", fn := fun _ => fun
  | [d1, d2, d3] => { results := [.lit (.bool true)], args := [d1, d2, d3] }
  | _ => none }
def fnPercentOfShiftsByWholeBlockRow : OpenClaim := { program := "qxb6601403a", sum := "a0e680053969657314bbaad5d66bfc3c756a4a391fd0c59f41f07768214f18bd", func := "example.com/lastro/lastro/zzlaws_internal_money_b1.FnPercentOfShiftsByWholeBlock", spec := "fnPercentOfShiftsByWholeBlock", apart := false }
def FnPercentOfShiftsByWholeBlockSaid : Prop := fnPercentOfShiftsByWholeBlockRow.holds Try.pinned (OpenSpec.ofChange fnPercentOfShiftsByWholeBlockSpec)

/-- ITS FALSE NEIGHBOUR: 'it returns false'. Refute it at one input. -/
def fnPercentOfShiftsByWholeBlockWrong : ChangeSpec := { name := "fnPercentOfShiftsByWholeBlock", fn := fun _ => fun
  | [d1, d2, d3] => { results := [.lit (.bool false)], args := [d1, d2, d3] }
  | _ => none }
def FnPercentOfShiftsByWholeBlockWrongFalsely : Prop := fnPercentOfShiftsByWholeBlockRow.holds Try.pinned (OpenSpec.ofChange fnPercentOfShiftsByWholeBlockWrong)

end Rows
end Go.Proofs.Qxb6601403a
