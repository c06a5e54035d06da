/-
  No cell of these rows narrows 'for every input' (looked for: loops, veiled, ifaces, maps, wideKeys, modest, calm, conditions, laid).
  DERIVED. THE GIVEN ROWS OF THIS SEAT. 3 by the template 'for every input the law returns true; each argument reads behind the call as it read before'; 0 by the template 'total and deterministic' (their statements: Qxb6619452aTotals.lean).
  GIVEN WITH THE SEED: the statements are not yours to turn. If you find one false, say at which input.
  Laid BY PROGRAM, IN A SANDBOX (cutbox-rows.mjs): the forced cells as the released guide's own fill.sh prints them over the translation 749b627e6bcca07a… (all of the seat's roots in one cut). By AI agents, Wed Nov 11 2026. No macro, syntax, notation, axiom, sorry.
-/
import Derived.Test.Qxb6619452aChecked
import GoSem.Claim
import GoSem.ClaimJoined
import GoSem.ClaimMapViews
import Derived.JoinedTies
import Derived.KernelRfl
namespace Go.Proofs.Qxb6619452a
/- THE CELL 'sum', in the pinned program and in every row, IS THE sha256 OF THE DUMP (.gsa) THAT Qxb6619452aProg.lean LOADS. Nothing in Lean hashes anything: it is a label: what it is worth is what the hold of that sum in a sandbox is worth. -/
noncomputable def Try.pinned : Pinned := { name := "qxb6619452a", sum := "749b627e6bcca07aed9045126a9ae1d8c04d59b1874ac14f99ec9d121ffa05fa", checked := Try.checked }
namespace Rows
def none {H : Type} : Left H := { results := [], args := [] }

/-- 'zzlaws_internal_robots_b1.FnStringSplitsPatternAtAnyCut': WHATEVER THE INPUT: true; the input reads as it did. -/
def fnStringSplitsPatternAtAnyCutSpec : ChangeSpec := { name := "fnStringSplitsPatternAtAnyCut", fn := fun _ => fun
  | [d1, d2, d3] => { results := [.lit (.bool true)], args := [d1, d2, d3] }
  | _ => none }
def fnStringSplitsPatternAtAnyCutRow : OpenClaim := { program := "qxb6619452a", sum := "749b627e6bcca07aed9045126a9ae1d8c04d59b1874ac14f99ec9d121ffa05fa", func := "example.com/tidewatch/tidewatch/zzlaws_internal_robots_b1.FnStringSplitsPatternAtAnyCut", spec := "fnStringSplitsPatternAtAnyCut", apart := false }
def FnStringSplitsPatternAtAnyCutSaid : Prop := fnStringSplitsPatternAtAnyCutRow.holds Try.pinned (OpenSpec.ofChange fnStringSplitsPatternAtAnyCutSpec)

/-- ITS FALSE NEIGHBOUR: 'it returns false'. Refute it at one input. -/
def fnStringSplitsPatternAtAnyCutWrong : ChangeSpec := { name := "fnStringSplitsPatternAtAnyCut", fn := fun _ => fun
  | [d1, d2, d3] => { results := [.lit (.bool false)], args := [d1, d2, d3] }
  | _ => none }
def FnStringSplitsPatternAtAnyCutWrongFalsely : Prop := fnStringSplitsPatternAtAnyCutRow.holds Try.pinned (OpenSpec.ofChange fnStringSplitsPatternAtAnyCutWrong)

/-- 'zzlaws_internal_robots_b1.FnStringDisallowLineIsDisPlusAllowLine': WHATEVER THE INPUT: true; the input reads as it did. -/
def fnStringDisallowLineIsDisPlusAllowLineSpec : ChangeSpec := { name := "fnStringDisallowLineIsDisPlusAllowLine", fn := fun _ => fun
  | [d] => { results := [.lit (.bool true)], args := [d] }
  | _ => none }
def fnStringDisallowLineIsDisPlusAllowLineRow : OpenClaim := { program := "qxb6619452a", sum := "749b627e6bcca07aed9045126a9ae1d8c04d59b1874ac14f99ec9d121ffa05fa", func := "example.com/tidewatch/tidewatch/zzlaws_internal_robots_b1.FnStringDisallowLineIsDisPlusAllowLine", spec := "fnStringDisallowLineIsDisPlusAllowLine", apart := false }
def FnStringDisallowLineIsDisPlusAllowLineSaid : Prop := fnStringDisallowLineIsDisPlusAllowLineRow.holds Try.pinned (OpenSpec.ofChange fnStringDisallowLineIsDisPlusAllowLineSpec)

/-- ITS FALSE NEIGHBOUR: 'it returns false'. Refute it at one input. -/
def fnStringDisallowLineIsDisPlusAllowLineWrong : ChangeSpec := { name := "fnStringDisallowLineIsDisPlusAllowLine", fn := fun _ => fun
  | [d] => { results := [.lit (.bool false)], args := [d] }
  | _ => none }
def FnStringDisallowLineIsDisPlusAllowLineWrongFalsely : Prop := fnStringDisallowLineIsDisPlusAllowLineRow.holds Try.pinned (OpenSpec.ofChange fnStringDisallowLineIsDisPlusAllowLineWrong)

/-- 'zzlaws_internal_robots_b1.FnStringIsInjectiveAndReadsBack': WHATEVER THE INPUT: true; the input reads as it did. -/
def fnStringIsInjectiveAndReadsBackSpec : ChangeSpec := { name := "fnStringIsInjectiveAndReadsBack", fn := fun _ => fun
  | [d1, d2, d3, d4] => { results := [.lit (.bool true)], args := [d1, d2, d3, d4] }
  | _ => none }
def fnStringIsInjectiveAndReadsBackRow : OpenClaim := { program := "qxb6619452a", sum := "749b627e6bcca07aed9045126a9ae1d8c04d59b1874ac14f99ec9d121ffa05fa", func := "example.com/tidewatch/tidewatch/zzlaws_internal_robots_b1.FnStringIsInjectiveAndReadsBack", spec := "fnStringIsInjectiveAndReadsBack", apart := false }
def FnStringIsInjectiveAndReadsBackSaid : Prop := fnStringIsInjectiveAndReadsBackRow.holds Try.pinned (OpenSpec.ofChange fnStringIsInjectiveAndReadsBackSpec)

/-- ITS FALSE NEIGHBOUR: 'it returns false'. Refute it at one input. -/
def fnStringIsInjectiveAndReadsBackWrong : ChangeSpec := { name := "fnStringIsInjectiveAndReadsBack", fn := fun _ => fun
  | [d1, d2, d3, d4] => { results := [.lit (.bool false)], args := [d1, d2, d3, d4] }
  | _ => none }
def FnStringIsInjectiveAndReadsBackWrongFalsely : Prop := fnStringIsInjectiveAndReadsBackRow.holds Try.pinned (OpenSpec.ofChange fnStringIsInjectiveAndReadsBackWrong)

end Rows
end Go.Proofs.Qxb6619452a
