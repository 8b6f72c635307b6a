/-
  No cell of these rows narrows 'for every input' (looked for: loops, veiled, ifaces, maps, wideKeys, modest, calm, conditions, laid).
  DERIVED. THE GIVEN ROWS OF THIS SEAT. 1 by the template 'for every input the law returns true; each argument reads behind the call as it read before'; 0 by the template 'total and deterministic' (their statements: Qxb6615982aFmtTotals.lean).
  GIVEN WITH THE SEED: the statements are not yours to turn. If you find one false, say at which input.
  Laid BY PROGRAM, IN A SANDBOX (cutbox-rows.mjs): the forced cells as the released guide's own fill.sh prints them over the translation 3614899ff7bd6788… (all of the seat's roots in one cut). By AI agents, Wed Nov 11 2026. No macro, syntax, notation, axiom, sorry.
-/
import Derived.Test.Qxb6615982aFmtChecked
import GoSem.Claim
import GoSem.ClaimJoined
import GoSem.ClaimMapViews
import Derived.JoinedTies
import Derived.KernelRfl
namespace Go.Proofs.Qxb6615982aFmt
/- THE CELL 'sum', in the pinned program and in every row, IS THE sha256 OF THE DUMP (.gsa) THAT Qxb6615982aFmtProg.lean LOADS. Nothing in Lean hashes anything: it is a label: what it is worth is what the hold of that sum in a sandbox is worth. -/
noncomputable def Tryf.pinned : Pinned := { name := "qxb6615982afmt", sum := "3614899ff7bd6788bb06598abc8e27dde4093b9b521f856f3628e7a0b1394048", checked := Tryf.checked }
namespace Rows
def none {H : Type} : Left H := { results := [], args := [] }

/-- 'zzlaws_pkg_plan_b1.FnFieldErrorMessageJoins': WHATEVER THE INPUT: true; the input reads as it did. -/
def fnFieldErrorMessageJoinsSpec : ChangeSpec := { name := "fnFieldErrorMessageJoins", fn := fun _ => fun
  | [d1, d2, d3, d4] => { results := [.lit (.bool true)], args := [d1, d2, d3, d4] }
  | _ => none }
def fnFieldErrorMessageJoinsRow : OpenClaim := { program := "qxb6615982afmt", sum := "3614899ff7bd6788bb06598abc8e27dde4093b9b521f856f3628e7a0b1394048", func := "example.com/vestwright/vestwright/zzlaws_pkg_plan_b1.FnFieldErrorMessageJoins", spec := "fnFieldErrorMessageJoins", stops := ["fmt.Sprintf, its operands' methods called"], inPlace := ["fmt.Sprintf"], unfollowed := true, recurses := true, apart := false }
/-- NO THEOREM (fmt's text is open here; it may be false): for the released tool's asking of the row's closed facts alone. THE STATEMENT IS 'FnFieldErrorMessageJoinsToldSaid' (Qxb6615982aFmtCards.lean). -/
def FnFieldErrorMessageJoinsFormAsk : Prop := fnFieldErrorMessageJoinsRow.holds Tryf.pinned (OpenSpec.ofChange fnFieldErrorMessageJoinsSpec)

/-- ITS FALSE NEIGHBOUR: 'it returns false'. Refute it at one input. -/
def fnFieldErrorMessageJoinsWrong : ChangeSpec := { name := "fnFieldErrorMessageJoins", fn := fun _ => fun
  | [d1, d2, d3, d4] => { results := [.lit (.bool false)], args := [d1, d2, d3, d4] }
  | _ => none }
def FnFieldErrorMessageJoinsWrongFormAsk : Prop := fnFieldErrorMessageJoinsRow.holds Tryf.pinned (OpenSpec.ofChange fnFieldErrorMessageJoinsWrong)

end Rows
end Go.Proofs.Qxb6615982aFmt
