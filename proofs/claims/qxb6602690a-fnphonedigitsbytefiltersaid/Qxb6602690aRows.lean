/-
  No cell of these rows narrows 'for every input' (looked for: loops, veiled, ifaces, maps, wideKeys, modest, calm, conditions, laid).
  DERIVED. THE GIVEN ROWS OF THIS SEAT. 8 by the template 'for every input the law returns true; each argument reads behind the call as it read before'; 0 by the template 'total and deterministic' (their statements: Qxb6602690aTotals.lean).
  GIVEN WITH THE SEED: the statements are not yours to turn. If you find one false, say at which input.
  Laid BY PROGRAM, IN A SANDBOX (cutbox-rows.mjs): the forced cells as the released guide's own fill.sh prints them over the translation 8e205f4c654465a8… (all of the seat's roots in one cut). By AI agents, Wed Nov 11 2026. No macro, syntax, notation, axiom, sorry.
-/
import Derived.Test.Qxb6602690aChecked
import GoSem.Claim
import GoSem.ClaimJoined
import GoSem.ClaimMapViews
import Derived.JoinedTies
import Derived.KernelRfl
namespace Go.Proofs.Qxb6602690a
/- THE CELL 'sum', in the pinned program and in every row, IS THE sha256 OF THE DUMP (.gsa) THAT Qxb6602690aProg.lean LOADS. Nothing in Lean hashes anything: it is a label: what it is worth is what the hold of that sum in a sandbox is worth. -/
noncomputable def Try.pinned : Pinned := { name := "qxb6602690a", sum := "8e205f4c654465a83eece17b67bf83c6ccca55f134d2bbab10b64c1028281d6a", checked := Try.checked }
namespace Rows
def none {H : Type} : Left H := { results := [], args := [] }

/-- 'zzlaws_decision_b1.FnDiscountAmountCaseTable': WHATEVER THE INPUT: true; the input reads as it did. -/
def fnDiscountAmountCaseTableSpec : ChangeSpec := { name := "fnDiscountAmountCaseTable", fn := fun _ => fun
  | [d1, d2, d3, d4] => { results := [.lit (.bool true)], args := [d1, d2, d3, d4] }
  | _ => none }
def fnDiscountAmountCaseTableRow : OpenClaim := { program := "qxb6602690a", sum := "8e205f4c654465a83eece17b67bf83c6ccca55f134d2bbab10b64c1028281d6a", func := "example.com/rebate-warden/rebate-warden/zzlaws_decision_b1.FnDiscountAmountCaseTable", spec := "fnDiscountAmountCaseTable", apart := false }
def FnDiscountAmountCaseTableSaid : Prop := fnDiscountAmountCaseTableRow.holds Try.pinned (OpenSpec.ofChange fnDiscountAmountCaseTableSpec)

/-- ITS FALSE NEIGHBOUR: 'it returns false'. Refute it at one input. -/
def fnDiscountAmountCaseTableWrong : ChangeSpec := { name := "fnDiscountAmountCaseTable", fn := fun _ => fun
  | [d1, d2, d3, d4] => { results := [.lit (.bool false)], args := [d1, d2, d3, d4] }
  | _ => none }
def FnDiscountAmountCaseTableWrongFalsely : Prop := fnDiscountAmountCaseTableRow.holds Try.pinned (OpenSpec.ofChange fnDiscountAmountCaseTableWrong)

/-- 'zzlaws_decision_b1.FnDiscountAmountWithinBaseAndCap': WHATEVER THE INPUT: true; the input reads as it did. -/
def fnDiscountAmountWithinBaseAndCapSpec : ChangeSpec := { name := "fnDiscountAmountWithinBaseAndCap", fn := fun _ => fun
  | [d1, d2, d3, d4] => { results := [.lit (.bool true)], args := [d1, d2, d3, d4] }
  | _ => none }
def fnDiscountAmountWithinBaseAndCapRow : OpenClaim := { program := "qxb6602690a", sum := "8e205f4c654465a83eece17b67bf83c6ccca55f134d2bbab10b64c1028281d6a", func := "example.com/rebate-warden/rebate-warden/zzlaws_decision_b1.FnDiscountAmountWithinBaseAndCap", spec := "fnDiscountAmountWithinBaseAndCap", apart := false }
def FnDiscountAmountWithinBaseAndCapSaid : Prop := fnDiscountAmountWithinBaseAndCapRow.holds Try.pinned (OpenSpec.ofChange fnDiscountAmountWithinBaseAndCapSpec)

/-- ITS FALSE NEIGHBOUR: 'it returns false'. Refute it at one input. -/
def fnDiscountAmountWithinBaseAndCapWrong : ChangeSpec := { name := "fnDiscountAmountWithinBaseAndCap", fn := fun _ => fun
  | [d1, d2, d3, d4] => { results := [.lit (.bool false)], args := [d1, d2, d3, d4] }
  | _ => none }
def FnDiscountAmountWithinBaseAndCapWrongFalsely : Prop := fnDiscountAmountWithinBaseAndCapRow.holds Try.pinned (OpenSpec.ofChange fnDiscountAmountWithinBaseAndCapWrong)

/-- 'zzlaws_decision_b1.FnDiscountAmountMonotoneInBase': WHATEVER THE INPUT: true; the input reads as it did. -/
def fnDiscountAmountMonotoneInBaseSpec : ChangeSpec := { name := "fnDiscountAmountMonotoneInBase", fn := fun _ => fun
  | [d1, d2, d3, d4, d5] => { results := [.lit (.bool true)], args := [d1, d2, d3, d4, d5] }
  | _ => none }
def fnDiscountAmountMonotoneInBaseRow : OpenClaim := { program := "qxb6602690a", sum := "8e205f4c654465a83eece17b67bf83c6ccca55f134d2bbab10b64c1028281d6a", func := "example.com/rebate-warden/rebate-warden/zzlaws_decision_b1.FnDiscountAmountMonotoneInBase", spec := "fnDiscountAmountMonotoneInBase", apart := false }
def FnDiscountAmountMonotoneInBaseSaid : Prop := fnDiscountAmountMonotoneInBaseRow.holds Try.pinned (OpenSpec.ofChange fnDiscountAmountMonotoneInBaseSpec)

/-- ITS FALSE NEIGHBOUR: 'it returns false'. Refute it at one input. -/
def fnDiscountAmountMonotoneInBaseWrong : ChangeSpec := { name := "fnDiscountAmountMonotoneInBase", fn := fun _ => fun
  | [d1, d2, d3, d4, d5] => { results := [.lit (.bool false)], args := [d1, d2, d3, d4, d5] }
  | _ => none }
def FnDiscountAmountMonotoneInBaseWrongFalsely : Prop := fnDiscountAmountMonotoneInBaseRow.holds Try.pinned (OpenSpec.ofChange fnDiscountAmountMonotoneInBaseWrong)

/-- 'zzlaws_decision_b1.FnPhoneDigitsByteFilter': WHATEVER THE INPUT: true; the input reads as it did. -/
def fnPhoneDigitsByteFilterSpec : ChangeSpec := { name := "fnPhoneDigitsByteFilter", fn := fun _ => fun
  | [d] => { results := [.lit (.bool true)], args := [d] }
  | _ => none }
def fnPhoneDigitsByteFilterRow : OpenClaim := { program := "qxb6602690a", sum := "8e205f4c654465a83eece17b67bf83c6ccca55f134d2bbab10b64c1028281d6a", func := "example.com/rebate-warden/rebate-warden/zzlaws_decision_b1.FnPhoneDigitsByteFilter", spec := "fnPhoneDigitsByteFilter", inPlace := ["internal/abi.NoEscape"], apart := false }
def FnPhoneDigitsByteFilterSaid : Prop := fnPhoneDigitsByteFilterRow.holds Try.pinned (OpenSpec.ofChange fnPhoneDigitsByteFilterSpec)

/-- ITS FALSE NEIGHBOUR: 'it returns false'. Refute it at one input. -/
def fnPhoneDigitsByteFilterWrong : ChangeSpec := { name := "fnPhoneDigitsByteFilter", fn := fun _ => fun
  | [d] => { results := [.lit (.bool false)], args := [d] }
  | _ => none }
def FnPhoneDigitsByteFilterWrongFalsely : Prop := fnPhoneDigitsByteFilterRow.holds Try.pinned (OpenSpec.ofChange fnPhoneDigitsByteFilterWrong)

/-- 'zzlaws_decision_b1.FnPhoneDigitsConcat': WHATEVER THE INPUT: true; the input reads as it did. -/
def fnPhoneDigitsConcatSpec : ChangeSpec := { name := "fnPhoneDigitsConcat", fn := fun _ => fun
  | [d1, d2] => { results := [.lit (.bool true)], args := [d1, d2] }
  | _ => none }
def fnPhoneDigitsConcatRow : OpenClaim := { program := "qxb6602690a", sum := "8e205f4c654465a83eece17b67bf83c6ccca55f134d2bbab10b64c1028281d6a", func := "example.com/rebate-warden/rebate-warden/zzlaws_decision_b1.FnPhoneDigitsConcat", spec := "fnPhoneDigitsConcat", inPlace := ["internal/abi.NoEscape"], apart := false }
def FnPhoneDigitsConcatSaid : Prop := fnPhoneDigitsConcatRow.holds Try.pinned (OpenSpec.ofChange fnPhoneDigitsConcatSpec)

/-- ITS FALSE NEIGHBOUR: 'it returns false'. Refute it at one input. -/
def fnPhoneDigitsConcatWrong : ChangeSpec := { name := "fnPhoneDigitsConcat", fn := fun _ => fun
  | [d1, d2] => { results := [.lit (.bool false)], args := [d1, d2] }
  | _ => none }
def FnPhoneDigitsConcatWrongFalsely : Prop := fnPhoneDigitsConcatRow.holds Try.pinned (OpenSpec.ofChange fnPhoneDigitsConcatWrong)

/-- 'zzlaws_decision_b1.FnPhoneDigitsIdempotent': WHATEVER THE INPUT: true; the input reads as it did. -/
def fnPhoneDigitsIdempotentSpec : ChangeSpec := { name := "fnPhoneDigitsIdempotent", fn := fun _ => fun
  | [d] => { results := [.lit (.bool true)], args := [d] }
  | _ => none }
def fnPhoneDigitsIdempotentRow : OpenClaim := { program := "qxb6602690a", sum := "8e205f4c654465a83eece17b67bf83c6ccca55f134d2bbab10b64c1028281d6a", func := "example.com/rebate-warden/rebate-warden/zzlaws_decision_b1.FnPhoneDigitsIdempotent", spec := "fnPhoneDigitsIdempotent", inPlace := ["internal/abi.NoEscape"], apart := false }
def FnPhoneDigitsIdempotentSaid : Prop := fnPhoneDigitsIdempotentRow.holds Try.pinned (OpenSpec.ofChange fnPhoneDigitsIdempotentSpec)

/-- ITS FALSE NEIGHBOUR: 'it returns false'. Refute it at one input. -/
def fnPhoneDigitsIdempotentWrong : ChangeSpec := { name := "fnPhoneDigitsIdempotent", fn := fun _ => fun
  | [d] => { results := [.lit (.bool false)], args := [d] }
  | _ => none }
def FnPhoneDigitsIdempotentWrongFalsely : Prop := fnPhoneDigitsIdempotentRow.holds Try.pinned (OpenSpec.ofChange fnPhoneDigitsIdempotentWrong)

/-- 'zzlaws_decision_b1.FnCartTotalConcat': WHATEVER THE INPUT: true; the input reads as it did. -/
def fnCartTotalConcatSpec : ChangeSpec := { name := "fnCartTotalConcat", fn := fun _ => fun
  | [d1, d2, d3, d4] => { results := [.lit (.bool true)], args := [d1, d2, d3, d4] }
  | _ => none }
def fnCartTotalConcatRow : OpenClaim := { program := "qxb6602690a", sum := "8e205f4c654465a83eece17b67bf83c6ccca55f134d2bbab10b64c1028281d6a", func := "example.com/rebate-warden/rebate-warden/zzlaws_decision_b1.FnCartTotalConcat", spec := "fnCartTotalConcat", apart := false }
def FnCartTotalConcatSaid : Prop := fnCartTotalConcatRow.holds Try.pinned (OpenSpec.ofChange fnCartTotalConcatSpec)

/-- ITS FALSE NEIGHBOUR: 'it returns false'. Refute it at one input. -/
def fnCartTotalConcatWrong : ChangeSpec := { name := "fnCartTotalConcat", fn := fun _ => fun
  | [d1, d2, d3, d4] => { results := [.lit (.bool false)], args := [d1, d2, d3, d4] }
  | _ => none }
def FnCartTotalConcatWrongFalsely : Prop := fnCartTotalConcatRow.holds Try.pinned (OpenSpec.ofChange fnCartTotalConcatWrong)

/-- 'zzlaws_decision_b1.FnCartTotalScaleQty': WHATEVER THE INPUT: true; the input reads as it did. -/
def fnCartTotalScaleQtySpec : ChangeSpec := { name := "fnCartTotalScaleQty", fn := fun _ => fun
  | [d1, d2, d3] => { results := [.lit (.bool true)], args := [d1, d2, d3] }
  | _ => none }
def fnCartTotalScaleQtyRow : OpenClaim := { program := "qxb6602690a", sum := "8e205f4c654465a83eece17b67bf83c6ccca55f134d2bbab10b64c1028281d6a", func := "example.com/rebate-warden/rebate-warden/zzlaws_decision_b1.FnCartTotalScaleQty", spec := "fnCartTotalScaleQty", apart := false }
def FnCartTotalScaleQtySaid : Prop := fnCartTotalScaleQtyRow.holds Try.pinned (OpenSpec.ofChange fnCartTotalScaleQtySpec)

/-- ITS FALSE NEIGHBOUR: 'it returns false'. Refute it at one input. -/
def fnCartTotalScaleQtyWrong : ChangeSpec := { name := "fnCartTotalScaleQty", fn := fun _ => fun
  | [d1, d2, d3] => { results := [.lit (.bool false)], args := [d1, d2, d3] }
  | _ => none }
def FnCartTotalScaleQtyWrongFalsely : Prop := fnCartTotalScaleQtyRow.holds Try.pinned (OpenSpec.ofChange fnCartTotalScaleQtyWrong)

end Rows
end Go.Proofs.Qxb6602690a
