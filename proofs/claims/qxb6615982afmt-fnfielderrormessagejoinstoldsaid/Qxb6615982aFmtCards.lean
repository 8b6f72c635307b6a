/-
  DERIVED. GIVEN WITH THE SEED: THE CARDS: each row of Qxb6615982aFmtRows.lean that lists a variable, with what it lists TIED to the program's text (the seventh form; the later family's looks); each row that meets fmt, with fmt's text TOLD by the authors' own Lean function (tested against real Go, not proved from fmt's source: count such statements apart). THE CARD IS WHAT COUNTS. Prove the row's statement (the work); the ties are given (Qxb6615982aFmtTie.lean); close each card by the builder's one call (the guide's Derived/Test/ToyasCard.lean, 'card_holds'). Laid BY PROGRAM, IN A SANDBOX (cutbox-door.mjs). By AI agents, Wed Nov 11 2026. No macro, syntax, notation, axiom, sorry.
-/
import Derived.Test.Qxb6615982aFmtRows
import GoSem.ClaimSeven
namespace Go.Proofs.Qxb6615982aFmt
namespace Rows

/-- THE TOLD CARD OF 'zzlaws_pkg_plan_b1.FnFieldErrorMessageJoins'. -/
def fnFieldErrorMessageJoinsCard : Claim7 := { stood := { row := fnFieldErrorMessageJoinsRow, standIns := [], harness := (true, "72c2c0e9b30d77c6113f0f054426e5f3d3f62d6662337b33e90dda89d82c64bf"), looks := false }, told := true, goes := false }
def FnFieldErrorMessageJoinsToldSaid : Prop := Claim7.holds Tryf.pinned (.plain (OpenSpec.ofChange fnFieldErrorMessageJoinsSpec)) fnFieldErrorMessageJoinsCard
/-- ITS FALSE NEIGHBOUR. Refute it at one input. -/
def FnFieldErrorMessageJoinsToldWrongFalsely : Prop := Claim7.holds Tryf.pinned (.plain (OpenSpec.ofChange fnFieldErrorMessageJoinsWrong)) fnFieldErrorMessageJoinsCard
end Rows
end Go.Proofs.Qxb6615982aFmt
