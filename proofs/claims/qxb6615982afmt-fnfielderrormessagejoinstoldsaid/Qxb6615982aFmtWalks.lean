/-
  THE WALKS for FnFieldErrorMessageJoins: FOR EVERY F.
-/
import Derived.Test.Qxb6615982aFmtFacts
import Derived.WalkKit
import Derived.WalkSpells
import Derived.WalkLawsBesides
import Derived.Deep.RegionWith
namespace Go.Proofs.Qxb6615982aFmt.Fx
open Go.RowKit Go.Extern.Stop Go.Stop Go.Extern

theorem hide {p : Prop} (h : p) : Hid p := h

def readP (p m : List UInt8) : List (List UInt8) := [[37, 115, 58, 32, 37, 118], shape9, FmtStop.pack p, plain31, m]
def readL (l : Int) (m : List UInt8) : List (List UInt8) := [[108, 105, 110, 101, 32, 37, 100, 58, 32, 37, 118], shape3, digits 8 (l % 18446744073709551616).toNat, plain31, m]
def readB (p : List UInt8) (l : Int) (m : List UInt8) : List (List UInt8) := [[37, 115, 32, 40, 108, 105, 110, 101, 32, 37, 100, 41, 58, 32, 37, 118], shape9, FmtStop.pack p, shape3, digits 8 (l % 18446744073709551616).toNat, plain31, m]

set_option maxRecDepth 100000 in
set_option maxHeartbeats 400000 in
theorem rows_P (F : Interp) (blk : Nat) (a : Addr) (p : ByteArray) (m : ByteArray) (w : World) {R : Value → World → Prop} (hF : F.answers w.tape) (h0 : w.cell? ⟨blk, 0, none⟩ = some (.iface 9 (.string p))) (h1 : w.cell? ⟨blk, 1, none⟩ = some (.iface 31 (.pointer (some a))))
    (hm : w.cell? a = some (.string m)) (h : R (.string (FmtStop.textOf (F "fmt.Sprintf" (readP p.data.toList m.data.toList) 0))) w.drew) :
    Rows Tryf.prog FmtCalls.turnsRow (FmtCalls.save 0 0 (.slice (some ⟨blk, 0, none⟩) 2 2) ⟨#[37, 115, 58, 32, 37, 118]⟩ [] [(0, 115, false), (1, 118, false)]) w R := by
  have hF' := answers_open hF
  have f4 := act9_115; have f5 := op9_115; have f6 := act31_118
  have f7 := opPlain31_118 "fmt.Sprintf" a m w hm
  apply rows_value nextTurns
  case hr =>
    go_simp
    exact ⟨rfl, rfl⟩
  case h => exact h

set_option maxRecDepth 100000 in
set_option maxHeartbeats 400000 in
theorem rows_L (F : Interp) (blk : Nat) (a : Addr) (l : Int) (m : ByteArray) (w : World) {R : Value → World → Prop} (hF : F.answers w.tape) (h0 : w.cell? ⟨blk, 0, none⟩ = some (.iface 3 (.int .i64 l))) (h1 : w.cell? ⟨blk, 1, none⟩ = some (.iface 31 (.pointer (some a))))
    (hm : w.cell? a = some (.string m)) (h : R (.string (FmtStop.textOf (F "fmt.Sprintf" (readL l m.data.toList) 0))) w.drew) :
    Rows Tryf.prog FmtCalls.turnsRow (FmtCalls.save 0 0 (.slice (some ⟨blk, 0, none⟩) 2 2) ⟨#[108, 105, 110, 101, 32, 37, 100, 58, 32, 37, 118]⟩ [] [(0, 100, false), (1, 118, false)]) w R := by
  have hF' := answers_open hF
  have f4 := act3_100; have f5 := op3_100; have f6 := act31_118
  have f7 := opPlain31_118 "fmt.Sprintf" a m w hm
  apply rows_value nextTurns
  case hr =>
    go_simp
    exact ⟨rfl, rfl⟩
  case h => exact h

set_option maxRecDepth 100000 in
set_option maxHeartbeats 400000 in
theorem rows_B (F : Interp) (blk : Nat) (a : Addr) (p : ByteArray) (l : Int) (m : ByteArray) (w : World) {R : Value → World → Prop} (hF : F.answers w.tape) (h0 : w.cell? ⟨blk, 0, none⟩ = some (.iface 9 (.string p))) (h1 : w.cell? ⟨blk, 1, none⟩ = some (.iface 3 (.int .i64 l))) (h2 : w.cell? ⟨blk, 2, none⟩ = some (.iface 31 (.pointer (some a))))
    (hm : w.cell? a = some (.string m)) (h : R (.string (FmtStop.textOf (F "fmt.Sprintf" (readB p.data.toList l m.data.toList) 0))) w.drew) :
    Rows Tryf.prog FmtCalls.turnsRow (FmtCalls.save 0 0 (.slice (some ⟨blk, 0, none⟩) 3 3) ⟨#[37, 115, 32, 40, 108, 105, 110, 101, 32, 37, 100, 41, 58, 32, 37, 118]⟩ [] [(0, 115, false), (1, 100, false), (2, 118, false)]) w R := by
  have hF' := answers_open hF
  have f4 := act9_115; have f5 := op9_115; have f4b := act3_100; have f5b := op3_100; have f6 := act31_118
  have f7 := opPlain31_118 "fmt.Sprintf" a m w hm
  apply rows_value nextTurns
  case hr =>
    go_simp
    exact ⟨rfl, rfl⟩
  case h => exact h

set_option maxRecDepth 100000 in
set_option maxHeartbeats 400000 in
theorem error_P (F : Interp) (B : Nat) (a : Addr) (p : ByteArray) (m : ByteArray) (w : World) (hF : F.answers w.tape) (_hB : B < w.heap.size)
    (h0 : w.cell? ⟨B, 0, none⟩ = some (.string p)) (h1 : w.cell? ⟨B, 1, none⟩ = some (.int .i64 0)) (h2 : w.cell? ⟨B, 2, none⟩ = some (.iface 31 (.pointer (some a))))
    (hm : w.cell? a = some (.string m)) (hp : p.toList.isEmpty = false) :
    Calls Tryf.prog 7 #[.pointer (some ⟨B, 0, none⟩)] w fun e w' => e = .returned (.string (FmtStop.textOf (F "fmt.Sprintf" (readP p.data.toList m.data.toList) 0))) ∧ Below w.heap.size w w' := by
  have HM : Hid (∀ o, (w.alloc o).cell? a = some (.string m)) := fun o => cell_later ((Below.refl _ w).alloc (Nat.le_refl _) o) hm
  have HF := hide hF
  have f1 := call8; have f2 := guard8; have f3 := fmtP
  clear hm hF
  go_enter Tryf.func7, Tryf.ntmps7
  go_wp2_with fail
  go_region_with (refine rows_P F _ a p m _ ?_ ?_ ?_ ?_ ?_; exact HF.out; go_simp; go_simp; exact HM.out _)
  all_goals
    go_wp2_with fail
    go_ret
    exact ⟨rfl, ((Below.refl _ _).alloc (Nat.le_refl _) _).drew.drew⟩

set_option maxRecDepth 100000 in
set_option maxHeartbeats 400000 in
theorem error_L (F : Interp) (B : Nat) (a : Addr) (l : Int) (m : ByteArray) (w : World) (hF : F.answers w.tape) (_hB : B < w.heap.size)
    (h0 : w.cell? ⟨B, 0, none⟩ = some (.string ⟨#[]⟩)) (h1 : w.cell? ⟨B, 1, none⟩ = some (.int .i64 l)) (h2 : w.cell? ⟨B, 2, none⟩ = some (.iface 31 (.pointer (some a))))
    (hm : w.cell? a = some (.string m)) (hl : (l == 0) = false) :
    Calls Tryf.prog 7 #[.pointer (some ⟨B, 0, none⟩)] w fun e w' => e = .returned (.string (FmtStop.textOf (F "fmt.Sprintf" (readL l m.data.toList) 0))) ∧ Below w.heap.size w w' := by
  have HM : Hid (∀ o, (w.alloc o).cell? a = some (.string m)) := fun o => cell_later ((Below.refl _ w).alloc (Nat.le_refl _) o) hm
  have HF := hide hF
  have f1 := call8; have f2 := guard8; have f3 := fmtL
  clear hm hF
  go_enter Tryf.func7, Tryf.ntmps7
  go_wp2_with fail
  go_region_with (refine rows_L F _ a l m _ ?_ ?_ ?_ ?_ ?_; exact HF.out; go_simp; go_simp; exact HM.out _)
  all_goals
    go_wp2_with fail
    go_ret
    exact ⟨rfl, ((Below.refl _ _).alloc (Nat.le_refl _) _).drew.drew⟩

set_option maxRecDepth 100000 in
set_option maxHeartbeats 400000 in
theorem error_B (F : Interp) (B : Nat) (a : Addr) (p : ByteArray) (l : Int) (m : ByteArray) (w : World) (hF : F.answers w.tape) (_hB : B < w.heap.size)
    (h0 : w.cell? ⟨B, 0, none⟩ = some (.string p)) (h1 : w.cell? ⟨B, 1, none⟩ = some (.int .i64 l)) (h2 : w.cell? ⟨B, 2, none⟩ = some (.iface 31 (.pointer (some a))))
    (hm : w.cell? a = some (.string m)) (hl : (l == 0) = false) (hp : p.toList.isEmpty = false) :
    Calls Tryf.prog 7 #[.pointer (some ⟨B, 0, none⟩)] w fun e w' => e = .returned (.string (FmtStop.textOf (F "fmt.Sprintf" (readB p.data.toList l m.data.toList) 0))) ∧ Below w.heap.size w w' := by
  have HM : Hid (∀ o, (w.alloc o).cell? a = some (.string m)) := fun o => cell_later ((Below.refl _ w).alloc (Nat.le_refl _) o) hm
  have HF := hide hF
  have f1 := call8; have f2 := guard8; have f3 := fmtB
  clear hm hF
  go_enter Tryf.func7, Tryf.ntmps7
  go_wp2_with fail
  go_region_with (refine rows_B F _ a p l m _ ?_ ?_ ?_ ?_ ?_ ?_; exact HF.out; go_simp; go_simp; go_simp; exact HM.out _)
  all_goals
    go_wp2_with fail
    go_ret
    exact ⟨rfl, ((Below.refl _ _).alloc (Nat.le_refl _) _).drew.drew⟩

theorem method_Error (a : Addr) (w : World) : (method 152 31 (.pointer (some a)) "Error").run Tryf.prog w = .ok (24, .pointer (some a)) w := by kernel_rfl

set_option maxRecDepth 100000 in
set_option maxHeartbeats 400000 in
theorem error_N (B E : Nat) (m : ByteArray) (w : World)
    (h0 : w.cell? ⟨B, 0, none⟩ = some (.string ⟨#[]⟩)) (h1 : w.cell? ⟨B, 1, none⟩ = some (.int .i64 0)) (h2 : w.cell? ⟨B, 2, none⟩ = some (.iface 31 (.pointer (some ⟨E, 0, none⟩))))
    (hm : w.cell? ⟨E, 0, none⟩ = some (.string m)) :
    Calls Tryf.prog 7 #[.pointer (some ⟨B, 0, none⟩)] w fun e w' => e = .returned (.string m) ∧ w' = w := by
  have hme := method_Error
  go_enter Tryf.func7, Tryf.ntmps7
  go_wp2
  go_ret
  exact ⟨rfl, rfl⟩
end Go.Proofs.Qxb6615982aFmt.Fx
