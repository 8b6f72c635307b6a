/-
  No cell of these rows narrows 'for every input' (looked for: loops, veiled, ifaces, maps, wideKeys, modest, calm, conditions, laid).
  DERIVED. THE GIVEN ROWS OF THIS SEAT. 5 by the template 'for every input the law returns true; each argument reads behind the call as it read before'; 0 by the template 'total and deterministic' (their statements: Qxb6615922aTotals.lean).
  GIVEN WITH THE SEED: the statements are not yours to turn. If you find one false, say at which input.
  Laid BY PROGRAM, IN A SANDBOX (cutbox-rows.mjs): the forced cells as the released guide's own fill.sh prints them over the translation 58a0ac34276a70a1… (all of the seat's roots in one cut). By AI agents, Wed Nov 11 2026. No macro, syntax, notation, axiom, sorry.
-/
import Derived.Test.Qxb6615922aChecked
import GoSem.Claim
import GoSem.ClaimJoined
import GoSem.ClaimMapViews
import Derived.JoinedTies
import Derived.KernelRfl
namespace Go.Proofs.Qxb6615922a
/- THE CELL 'sum', in the pinned program and in every row, IS THE sha256 OF THE DUMP (.gsa) THAT Qxb6615922aProg.lean LOADS. Nothing in Lean hashes anything: it is a label: what it is worth is what the hold of that sum in a sandbox is worth. -/
noncomputable def Try.pinned : Pinned := { name := "qxb6615922a", sum := "58a0ac34276a70a1892504877842ed5b173b1a6e53a53cab4197b1bf3c3e7bbd", checked := Try.checked }
namespace Rows
def none {H : Type} : Left H := { results := [], args := [] }

/-- 'zzlaws_query_b1.FnIsInfIsTheNonNaNWhoseSelfDifferenceIsNaN': WHATEVER THE INPUT: true; the input reads as it did. -/
def fnIsInfIsTheNonNaNWhoseSelfDifferenceIsNaNSpec : ChangeSpec := { name := "fnIsInfIsTheNonNaNWhoseSelfDifferenceIsNaN", fn := fun _ => fun
  | [d1, d2, d3] => { results := [.lit (.bool true)], args := [d1, d2, d3] }
  | _ => none }
def fnIsInfIsTheNonNaNWhoseSelfDifferenceIsNaNRow : OpenClaim := { program := "qxb6615922a", sum := "58a0ac34276a70a1892504877842ed5b173b1a6e53a53cab4197b1bf3c3e7bbd", func := "example.com/stepglass/stepglass/zzlaws_query_b1.FnIsInfIsTheNonNaNWhoseSelfDifferenceIsNaN", spec := "fnIsInfIsTheNonNaNWhoseSelfDifferenceIsNaN", inPlace := ["math.Float64bits", "math.Float64frombits"], apart := false }
def FnIsInfIsTheNonNaNWhoseSelfDifferenceIsNaNSaid : Prop := fnIsInfIsTheNonNaNWhoseSelfDifferenceIsNaNRow.holds Try.pinned (OpenSpec.ofChange fnIsInfIsTheNonNaNWhoseSelfDifferenceIsNaNSpec)

/-- ITS FALSE NEIGHBOUR: 'it returns false'. Refute it at one input. -/
def fnIsInfIsTheNonNaNWhoseSelfDifferenceIsNaNWrong : ChangeSpec := { name := "fnIsInfIsTheNonNaNWhoseSelfDifferenceIsNaN", fn := fun _ => fun
  | [d1, d2, d3] => { results := [.lit (.bool false)], args := [d1, d2, d3] }
  | _ => none }
def FnIsInfIsTheNonNaNWhoseSelfDifferenceIsNaNWrongFalsely : Prop := fnIsInfIsTheNonNaNWhoseSelfDifferenceIsNaNRow.holds Try.pinned (OpenSpec.ofChange fnIsInfIsTheNonNaNWhoseSelfDifferenceIsNaNWrong)

/-- 'zzlaws_query_b1.FnIsInfIsTheNonNaNWithZeroReciprocal': WHATEVER THE INPUT: true; the input reads as it did. -/
def fnIsInfIsTheNonNaNWithZeroReciprocalSpec : ChangeSpec := { name := "fnIsInfIsTheNonNaNWithZeroReciprocal", fn := fun _ => fun
  | [d1, d2] => { results := [.lit (.bool true)], args := [d1, d2] }
  | _ => none }
def fnIsInfIsTheNonNaNWithZeroReciprocalRow : OpenClaim := { program := "qxb6615922a", sum := "58a0ac34276a70a1892504877842ed5b173b1a6e53a53cab4197b1bf3c3e7bbd", func := "example.com/stepglass/stepglass/zzlaws_query_b1.FnIsInfIsTheNonNaNWithZeroReciprocal", spec := "fnIsInfIsTheNonNaNWithZeroReciprocal", inPlace := ["math.Float64bits", "math.Float64frombits"], apart := false }
def FnIsInfIsTheNonNaNWithZeroReciprocalSaid : Prop := fnIsInfIsTheNonNaNWithZeroReciprocalRow.holds Try.pinned (OpenSpec.ofChange fnIsInfIsTheNonNaNWithZeroReciprocalSpec)

/-- ITS FALSE NEIGHBOUR: 'it returns false'. Refute it at one input. -/
def fnIsInfIsTheNonNaNWithZeroReciprocalWrong : ChangeSpec := { name := "fnIsInfIsTheNonNaNWithZeroReciprocal", fn := fun _ => fun
  | [d1, d2] => { results := [.lit (.bool false)], args := [d1, d2] }
  | _ => none }
def FnIsInfIsTheNonNaNWithZeroReciprocalWrongFalsely : Prop := fnIsInfIsTheNonNaNWithZeroReciprocalRow.holds Try.pinned (OpenSpec.ofChange fnIsInfIsTheNonNaNWithZeroReciprocalWrong)

/-- 'zzlaws_query_b1.FnCallStringSplitsAtAnyCut': WHATEVER THE INPUT: true; the input reads as it did. -/
def fnCallStringSplitsAtAnyCutSpec : ChangeSpec := { name := "fnCallStringSplitsAtAnyCut", fn := fun _ => fun
  | [d1, d2, d3] => { results := [.lit (.bool true)], args := [d1, d2, d3] }
  | _ => none }
def fnCallStringSplitsAtAnyCutRow : OpenClaim := { program := "qxb6615922a", sum := "58a0ac34276a70a1892504877842ed5b173b1a6e53a53cab4197b1bf3c3e7bbd", func := "example.com/stepglass/stepglass/zzlaws_query_b1.FnCallStringSplitsAtAnyCut", spec := "fnCallStringSplitsAtAnyCut", inPlace := ["internal/abi.NoEscape", "internal/bytealg.MakeNoZero"], unfollowed := true, recurses := true, apart := false }
def FnCallStringSplitsAtAnyCutSaid : Prop := fnCallStringSplitsAtAnyCutRow.holds Try.pinned (OpenSpec.ofChange fnCallStringSplitsAtAnyCutSpec)

/-- ITS FALSE NEIGHBOUR: 'it returns false'. Refute it at one input. -/
def fnCallStringSplitsAtAnyCutWrong : ChangeSpec := { name := "fnCallStringSplitsAtAnyCut", fn := fun _ => fun
  | [d1, d2, d3] => { results := [.lit (.bool false)], args := [d1, d2, d3] }
  | _ => none }
def FnCallStringSplitsAtAnyCutWrongFalsely : Prop := fnCallStringSplitsAtAnyCutRow.holds Try.pinned (OpenSpec.ofChange fnCallStringSplitsAtAnyCutWrong)

/-- 'zzlaws_query_b1.FnCallStringNestsAnArgument': WHATEVER THE INPUT: true; the input reads as it did. -/
def fnCallStringNestsAnArgumentSpec : ChangeSpec := { name := "fnCallStringNestsAnArgument", fn := fun _ => fun
  | [d1, d2, d3] => { results := [.lit (.bool true)], args := [d1, d2, d3] }
  | _ => none }
def fnCallStringNestsAnArgumentRow : OpenClaim := { program := "qxb6615922a", sum := "58a0ac34276a70a1892504877842ed5b173b1a6e53a53cab4197b1bf3c3e7bbd", func := "example.com/stepglass/stepglass/zzlaws_query_b1.FnCallStringNestsAnArgument", spec := "fnCallStringNestsAnArgument", inPlace := ["internal/abi.NoEscape", "internal/bytealg.MakeNoZero"], unfollowed := true, recurses := true, apart := false }
def FnCallStringNestsAnArgumentSaid : Prop := fnCallStringNestsAnArgumentRow.holds Try.pinned (OpenSpec.ofChange fnCallStringNestsAnArgumentSpec)

/-- ITS FALSE NEIGHBOUR: 'it returns false'. Refute it at one input. -/
def fnCallStringNestsAnArgumentWrong : ChangeSpec := { name := "fnCallStringNestsAnArgument", fn := fun _ => fun
  | [d1, d2, d3] => { results := [.lit (.bool false)], args := [d1, d2, d3] }
  | _ => none }
def FnCallStringNestsAnArgumentWrongFalsely : Prop := fnCallStringNestsAnArgumentRow.holds Try.pinned (OpenSpec.ofChange fnCallStringNestsAnArgumentWrong)

/-- 'zzlaws_query_b1.FnNewEvaluatorIsFreshEachCall': WHATEVER THE INPUT: true; the input reads as it did. -/
def fnNewEvaluatorIsFreshEachCallSpec : ChangeSpec := { name := "fnNewEvaluatorIsFreshEachCall", fn := fun _ => fun
  | [d1, d2] => { results := [.lit (.bool true)], args := [d1, d2] }
  | _ => none }
def fnNewEvaluatorIsFreshEachCallRow : OpenClaim := { program := "qxb6615922a", sum := "58a0ac34276a70a1892504877842ed5b173b1a6e53a53cab4197b1bf3c3e7bbd", func := "example.com/stepglass/stepglass/zzlaws_query_b1.FnNewEvaluatorIsFreshEachCall", spec := "fnNewEvaluatorIsFreshEachCall", apart := false }
def FnNewEvaluatorIsFreshEachCallSaid : Prop := fnNewEvaluatorIsFreshEachCallRow.holds Try.pinned (OpenSpec.ofChange fnNewEvaluatorIsFreshEachCallSpec)

/-- ITS FALSE NEIGHBOUR: 'it returns false'. Refute it at one input. -/
def fnNewEvaluatorIsFreshEachCallWrong : ChangeSpec := { name := "fnNewEvaluatorIsFreshEachCall", fn := fun _ => fun
  | [d1, d2] => { results := [.lit (.bool false)], args := [d1, d2] }
  | _ => none }
def FnNewEvaluatorIsFreshEachCallWrongFalsely : Prop := fnNewEvaluatorIsFreshEachCallRow.holds Try.pinned (OpenSpec.ofChange fnNewEvaluatorIsFreshEachCallWrong)

end Rows
end Go.Proofs.Qxb6615922a
