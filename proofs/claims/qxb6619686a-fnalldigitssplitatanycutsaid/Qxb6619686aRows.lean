/-
  No cell of these rows narrows 'for every input' (looked for: loops, veiled, ifaces, maps, wideKeys, modest, calm, conditions, laid).
  DERIVED. THE GIVEN ROWS OF THIS SEAT. 2 by the template 'for every input the law returns true; each argument reads behind the call as it read before'; 0 by the template 'total and deterministic' (their statements: Qxb6619686aTotals.lean).
  GIVEN WITH THE SEED: the statements are not yours to turn. If you find one false, say at which input.
  Laid BY PROGRAM, IN A SANDBOX (cutbox-rows.mjs): the forced cells as the released guide's own fill.sh prints them over the translation 5f6f1ca39b6b052c… (all of the seat's roots in one cut). By AI agents, Wed Nov 11 2026. No macro, syntax, notation, axiom, sorry.
-/
import Derived.Test.Qxb6619686aChecked
import GoSem.Claim
import GoSem.ClaimJoined
import GoSem.ClaimMapViews
import Derived.JoinedTies
import Derived.KernelRfl
namespace Go.Proofs.Qxb6619686a
/- THE CELL 'sum', in the pinned program and in every row, IS THE sha256 OF THE DUMP (.gsa) THAT Qxb6619686aProg.lean LOADS. Nothing in Lean hashes anything: it is a label: what it is worth is what the hold of that sum in a sandbox is worth. -/
noncomputable def Try.pinned : Pinned := { name := "qxb6619686a", sum := "5f6f1ca39b6b052c069199627008fbc21a6b6fee7795283e157e42b3abde9f8e", checked := Try.checked }
namespace Rows
def none {H : Type} : Left H := { results := [], args := [] }

/-- 'zzlaws_internal_decimal_b1.FnAllDigitsNumeralInsertedAnywhere': WHATEVER THE INPUT: true; the input reads as it did. -/
def fnAllDigitsNumeralInsertedAnywhereSpec : ChangeSpec := { name := "fnAllDigitsNumeralInsertedAnywhere", fn := fun _ => fun
  | [d1, d2, d3] => { results := [.lit (.bool true)], args := [d1, d2, d3] }
  | _ => none }
def fnAllDigitsNumeralInsertedAnywhereRow : OpenClaim := { program := "qxb6619686a", sum := "5f6f1ca39b6b052c069199627008fbc21a6b6fee7795283e157e42b3abde9f8e", func := "example.com/vestledger/vestledger/zzlaws_internal_decimal_b1.FnAllDigitsNumeralInsertedAnywhere", spec := "fnAllDigitsNumeralInsertedAnywhere", apart := false }
def FnAllDigitsNumeralInsertedAnywhereSaid : Prop := fnAllDigitsNumeralInsertedAnywhereRow.holds Try.pinned (OpenSpec.ofChange fnAllDigitsNumeralInsertedAnywhereSpec)

/-- ITS FALSE NEIGHBOUR: 'it returns false'. Refute it at one input. -/
def fnAllDigitsNumeralInsertedAnywhereWrong : ChangeSpec := { name := "fnAllDigitsNumeralInsertedAnywhere", fn := fun _ => fun
  | [d1, d2, d3] => { results := [.lit (.bool false)], args := [d1, d2, d3] }
  | _ => none }
def FnAllDigitsNumeralInsertedAnywhereWrongFalsely : Prop := fnAllDigitsNumeralInsertedAnywhereRow.holds Try.pinned (OpenSpec.ofChange fnAllDigitsNumeralInsertedAnywhereWrong)

/-- 'zzlaws_internal_decimal_b1.FnAllDigitsSplitAtAnyCut': WHATEVER THE INPUT: true; the input reads as it did. -/
def fnAllDigitsSplitAtAnyCutSpec : ChangeSpec := { name := "fnAllDigitsSplitAtAnyCut", fn := fun _ => fun
  | [d1, d2, d3] => { results := [.lit (.bool true)], args := [d1, d2, d3] }
  | _ => none }
def fnAllDigitsSplitAtAnyCutRow : OpenClaim := { program := "qxb6619686a", sum := "5f6f1ca39b6b052c069199627008fbc21a6b6fee7795283e157e42b3abde9f8e", func := "example.com/vestledger/vestledger/zzlaws_internal_decimal_b1.FnAllDigitsSplitAtAnyCut", spec := "fnAllDigitsSplitAtAnyCut", apart := false }
def FnAllDigitsSplitAtAnyCutSaid : Prop := fnAllDigitsSplitAtAnyCutRow.holds Try.pinned (OpenSpec.ofChange fnAllDigitsSplitAtAnyCutSpec)

/-- ITS FALSE NEIGHBOUR: 'it returns false'. Refute it at one input. -/
def fnAllDigitsSplitAtAnyCutWrong : ChangeSpec := { name := "fnAllDigitsSplitAtAnyCut", fn := fun _ => fun
  | [d1, d2, d3] => { results := [.lit (.bool false)], args := [d1, d2, d3] }
  | _ => none }
def FnAllDigitsSplitAtAnyCutWrongFalsely : Prop := fnAllDigitsSplitAtAnyCutRow.holds Try.pinned (OpenSpec.ofChange fnAllDigitsSplitAtAnyCutWrong)

end Rows
end Go.Proofs.Qxb6619686a
