/-
  No cell of these rows narrows 'for every input' (looked for: loops, veiled, ifaces, maps, wideKeys, modest, calm, conditions, laid).
  DERIVED. THE GIVEN ROWS OF THIS SEAT. 4 by the template 'for every input the law returns true; each argument reads behind the call as it read before'; 0 by the template 'total and deterministic' (their statements: Qxb6619679aTotals.lean).
  GIVEN WITH THE SEED: the statements are not yours to turn. If you find one false, say at which input.
  Laid BY PROGRAM, IN A SANDBOX (cutbox-rows.mjs): the forced cells as the released guide's own fill.sh prints them over the translation cd0637c8e71cfcef… (all of the seat's roots in one cut). By AI agents, Wed Nov 11 2026. No macro, syntax, notation, axiom, sorry.
-/
import Derived.Test.Qxb6619679aChecked
import GoSem.Claim
import GoSem.ClaimJoined
import GoSem.ClaimMapViews
import Derived.JoinedTies
import Derived.KernelRfl
namespace Go.Proofs.Qxb6619679a
/- THE CELL 'sum', in the pinned program and in every row, IS THE sha256 OF THE DUMP (.gsa) THAT Qxb6619679aProg.lean LOADS. Nothing in Lean hashes anything: it is a label: what it is worth is what the hold of that sum in a sandbox is worth. -/
noncomputable def Try.pinned : Pinned := { name := "qxb6619679a", sum := "cd0637c8e71cfcef4f1490f7581a963c0e40e2d4b9849d2b9acc3f284e4502c3", checked := Try.checked }
namespace Rows
def none {H : Type} : Left H := { results := [], args := [] }

/-- 'zzlaws_internal_jsonlines_b1.FnTakeReadsANumberText': WHATEVER THE INPUT: true; the input reads as it did. -/
def fnTakeReadsANumberTextSpec : ChangeSpec := { name := "fnTakeReadsANumberText", fn := fun _ => fun
  | [d] => { results := [.lit (.bool true)], args := [d] }
  | _ => none }
def fnTakeReadsANumberTextRow : OpenClaim := { program := "qxb6619679a", sum := "cd0637c8e71cfcef4f1490f7581a963c0e40e2d4b9849d2b9acc3f284e4502c3", func := "example.com/crankshaft/crankshaft/zzlaws_internal_jsonlines_b1.FnTakeReadsANumberText", spec := "fnTakeReadsANumberText", apart := false }
def FnTakeReadsANumberTextSaid : Prop := fnTakeReadsANumberTextRow.holds Try.pinned (OpenSpec.ofChange fnTakeReadsANumberTextSpec)

/-- ITS FALSE NEIGHBOUR: 'it returns false'. Refute it at one input. -/
def fnTakeReadsANumberTextWrong : ChangeSpec := { name := "fnTakeReadsANumberText", fn := fun _ => fun
  | [d] => { results := [.lit (.bool false)], args := [d] }
  | _ => none }
def FnTakeReadsANumberTextWrongFalsely : Prop := fnTakeReadsANumberTextRow.holds Try.pinned (OpenSpec.ofChange fnTakeReadsANumberTextWrong)

/-- 'zzlaws_internal_jsonlines_b1.FnFitsKindTakesNullAndItsOwnJSONType': WHATEVER THE INPUT: true; the input reads as it did. -/
def fnFitsKindTakesNullAndItsOwnJSONTypeSpec : ChangeSpec := { name := "fnFitsKindTakesNullAndItsOwnJSONType", fn := fun _ => fun
  | [d1, d2] => { results := [.lit (.bool true)], args := [d1, d2] }
  | _ => none }
def fnFitsKindTakesNullAndItsOwnJSONTypeRow : OpenClaim := { program := "qxb6619679a", sum := "cd0637c8e71cfcef4f1490f7581a963c0e40e2d4b9849d2b9acc3f284e4502c3", func := "example.com/crankshaft/crankshaft/zzlaws_internal_jsonlines_b1.FnFitsKindTakesNullAndItsOwnJSONType", spec := "fnFitsKindTakesNullAndItsOwnJSONType", apart := false }
def FnFitsKindTakesNullAndItsOwnJSONTypeSaid : Prop := fnFitsKindTakesNullAndItsOwnJSONTypeRow.holds Try.pinned (OpenSpec.ofChange fnFitsKindTakesNullAndItsOwnJSONTypeSpec)

/-- ITS FALSE NEIGHBOUR: 'it returns false'. Refute it at one input. -/
def fnFitsKindTakesNullAndItsOwnJSONTypeWrong : ChangeSpec := { name := "fnFitsKindTakesNullAndItsOwnJSONType", fn := fun _ => fun
  | [d1, d2] => { results := [.lit (.bool false)], args := [d1, d2] }
  | _ => none }
def FnFitsKindTakesNullAndItsOwnJSONTypeWrongFalsely : Prop := fnFitsKindTakesNullAndItsOwnJSONTypeRow.holds Try.pinned (OpenSpec.ofChange fnFitsKindTakesNullAndItsOwnJSONTypeWrong)

/-- 'zzlaws_internal_jsonlines_b1.FnHex4IsTheNumberItsDigitsWrite': WHATEVER THE INPUT: true; the input reads as it did. -/
def fnHex4IsTheNumberItsDigitsWriteSpec : ChangeSpec := { name := "fnHex4IsTheNumberItsDigitsWrite", fn := fun _ => fun
  | [d] => { results := [.lit (.bool true)], args := [d] }
  | _ => none }
def fnHex4IsTheNumberItsDigitsWriteRow : OpenClaim := { program := "qxb6619679a", sum := "cd0637c8e71cfcef4f1490f7581a963c0e40e2d4b9849d2b9acc3f284e4502c3", func := "example.com/crankshaft/crankshaft/zzlaws_internal_jsonlines_b1.FnHex4IsTheNumberItsDigitsWrite", spec := "fnHex4IsTheNumberItsDigitsWrite", apart := false }
def FnHex4IsTheNumberItsDigitsWriteSaid : Prop := fnHex4IsTheNumberItsDigitsWriteRow.holds Try.pinned (OpenSpec.ofChange fnHex4IsTheNumberItsDigitsWriteSpec)

/-- ITS FALSE NEIGHBOUR: 'it returns false'. Refute it at one input. -/
def fnHex4IsTheNumberItsDigitsWriteWrong : ChangeSpec := { name := "fnHex4IsTheNumberItsDigitsWrite", fn := fun _ => fun
  | [d] => { results := [.lit (.bool false)], args := [d] }
  | _ => none }
def FnHex4IsTheNumberItsDigitsWriteWrongFalsely : Prop := fnHex4IsTheNumberItsDigitsWriteRow.holds Try.pinned (OpenSpec.ofChange fnHex4IsTheNumberItsDigitsWriteWrong)

/-- 'zzlaws_internal_jsonlines_b1.FnHex4DigitPlaceValueAnyCase': WHATEVER THE INPUT: true; the input reads as it did. -/
def fnHex4DigitPlaceValueAnyCaseSpec : ChangeSpec := { name := "fnHex4DigitPlaceValueAnyCase", fn := fun _ => fun
  | [d1, d2] => { results := [.lit (.bool true)], args := [d1, d2] }
  | _ => none }
def fnHex4DigitPlaceValueAnyCaseRow : OpenClaim := { program := "qxb6619679a", sum := "cd0637c8e71cfcef4f1490f7581a963c0e40e2d4b9849d2b9acc3f284e4502c3", func := "example.com/crankshaft/crankshaft/zzlaws_internal_jsonlines_b1.FnHex4DigitPlaceValueAnyCase", spec := "fnHex4DigitPlaceValueAnyCase", apart := false }
def FnHex4DigitPlaceValueAnyCaseSaid : Prop := fnHex4DigitPlaceValueAnyCaseRow.holds Try.pinned (OpenSpec.ofChange fnHex4DigitPlaceValueAnyCaseSpec)

/-- ITS FALSE NEIGHBOUR: 'it returns false'. Refute it at one input. -/
def fnHex4DigitPlaceValueAnyCaseWrong : ChangeSpec := { name := "fnHex4DigitPlaceValueAnyCase", fn := fun _ => fun
  | [d1, d2] => { results := [.lit (.bool false)], args := [d1, d2] }
  | _ => none }
def FnHex4DigitPlaceValueAnyCaseWrongFalsely : Prop := fnHex4DigitPlaceValueAnyCaseRow.holds Try.pinned (OpenSpec.ofChange fnHex4DigitPlaceValueAnyCaseWrong)

end Rows
end Go.Proofs.Qxb6619679a
