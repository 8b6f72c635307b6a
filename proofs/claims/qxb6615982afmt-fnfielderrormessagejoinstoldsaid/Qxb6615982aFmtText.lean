/-
  WHAT fmt.Sprintf WRITES at the three formats: by the authors' told text.
-/
import Derived.Test.Qxb6615982aFmtWalks
import Derived.Stop.JoinedTold
import Derived.Stop.Texts
import Derived.Stop.FmtTextKit
import Derived.Stop.FmtTextVerbs
namespace Go.Proofs.Qxb6615982aFmt.Fx
open Go.RowKit Go.Extern.Stop Go.Stop Go.Extern Go.Kit

theorem parseP : (FmtText.parse [37, 115, 58, 32, 37, 118]).map FmtText.glue = some [.verb {} 115, .lit [58, 32], .verb {} 118] := by rfl
theorem parseL : (FmtText.parse [108, 105, 110, 101, 32, 37, 100, 58, 32, 37, 118]).map FmtText.glue = some [.lit [108, 105, 110, 101, 32], .verb {} 100, .lit [58, 32], .verb {} 118] := by rfl
theorem parseB : (FmtText.parse [37, 115, 32, 40, 108, 105, 110, 101, 32, 37, 100, 41, 58, 32, 37, 118]).map FmtText.glue = some [.verb {} 115, .lit [32, 40, 108, 105, 110, 101, 32], .verb {} 100, .lit [41, 58, 32], .verb {} 118] := by rfl

/-- The head of the message: the path and the line. -/
def headT (p : List UInt8) (l : Int) : List UInt8 :=
  if l = 0 then (if p = [] then [] else p ++ [58, 32])
  else if p = [] then [108, 105, 110, 101, 32] ++ Lib.itoa l ++ [58, 32] else p ++ [32, 40, 108, 105, 110, 101, 32] ++ Lib.itoa l ++ [41, 58, 32]

theorem unpackPlain : FmtText.unpack (FmtStop.pack plainName) = some plainName := FmtText.unpack_pack _ (by decide)
theorem textP (p m : List UInt8) (hp : p.length < 2 ^ 64) : FmtText.text "fmt.Sprintf" (readP p m) = some (p ++ [58, 32] ++ m) := by
  have h1 := FmtText.operand_str_at (sh := shape9) rfl rfl p hp
  have h2 := FmtText.operand_plain_at (sh := plain31) rfl unpackPlain m
  rw [readP, FmtText.text_sprintf_glued parseP (FmtText.operands_cons h1 (FmtText.operands_cons h2 FmtText.operands_nil))]
  simp [FmtText.render, FmtText.printArg_s_str, FmtText.printArg_v_said]
theorem textL (l : Int) (m : List UInt8) (hl : (Lit.int .i64 l).wf = true) : FmtText.text "fmt.Sprintf" (readL l m) = some ([108, 105, 110, 101, 32] ++ Lib.itoa l ++ [58, 32] ++ m) := by
  have h1 := FmtText.operand_int_at (sh := shape3) (k := .i64) rfl rfl l hl
  have h2 := FmtText.operand_plain_at (sh := plain31) rfl unpackPlain m
  rw [readL, FmtText.text_sprintf_glued parseL (FmtText.operands_cons h1 (FmtText.operands_cons h2 FmtText.operands_nil))]
  simp [FmtText.render, FmtText.printArg_d _ _ hl, FmtText.printArg_v_said]
theorem textB (p : List UInt8) (l : Int) (m : List UInt8) (hp : p.length < 2 ^ 64) (hl : (Lit.int .i64 l).wf = true) :
    FmtText.text "fmt.Sprintf" (readB p l m) = some (p ++ [32, 40, 108, 105, 110, 101, 32] ++ Lib.itoa l ++ [41, 58, 32] ++ m) := by
  have h0 := FmtText.operand_str_at (sh := shape9) rfl rfl p hp
  have h1 := FmtText.operand_int_at (sh := shape3) (k := .i64) rfl rfl l hl
  have h2 := FmtText.operand_plain_at (sh := plain31) rfl unpackPlain m
  rw [readB, FmtText.text_sprintf_glued parseB (FmtText.operands_cons h0 (FmtText.operands_cons h1 (FmtText.operands_cons h2 FmtText.operands_nil)))]
  simp [FmtText.render, FmtText.printArg_s_str, FmtText.printArg_d _ _ hl, FmtText.printArg_v_said]

theorem told_bytes (F : Interp) {reading : List (List UInt8)} {s : List UInt8} (h : FmtText.text "fmt.Sprintf" reading = some s) (hl : s.length < 2 ^ 63) : FmtStop.textOf (F.told "fmt.Sprintf" reading 0) = ⟨s.toArray⟩ := by
  have h1 := told_string F h hl
  have h2 := textOf_list F.told "fmt.Sprintf" reading
  rw [h1] at h2
  apply ByteArray.ext
  rw [← h2]
end Go.Proofs.Qxb6615982aFmt.Fx
