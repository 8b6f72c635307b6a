/-
  THE LOWEST BIT AS Go's TEXT HAS IT: 'j & (j-1)', 'j & -j' on an int.
-/
import Derived.Test.Qxb6615931aFen
import Derived.WalkKit
import Derived.Laws.BitsAllLaws
namespace Go.Proofs.Qxb6615931a.Us
open Go.RowKit

theorem wraps_i64 (n : Int) (h0 : 0 ≤ n) (h1 : n < 2 ^ 63) : IntKind.i64.wrap n = n := by rw [IntKind.wrap_i64]; omega

theorem and_pred (k : Nat) (h0 : 0 < k) (hk : k ≤ 65536) : bits .and .i64 (k : Int) ((k : Int) - 1) = ((k - Fen.lb k : Nat) : Int) := by
  have e : ((k : Int) - 1) = ((k - 1 : Nat) : Int) := by omega
  rw [e, (bits_nat .i64 63 (by decide) wraps_i64 k (k - 1) (by omega) (by omega)).1, Fen.land_eq]

theorem land_dbl (x y : Nat) : (2 * x) &&& (2 * y) = 2 * (x &&& y) := by
  apply Nat.eq_of_testBit_eq
  intro i
  cases i with
  | zero => simp
  | succ i =>
    have h1 : (2 * x) / 2 = x := by omega
    have h2 : (2 * y) / 2 = y := by omega
    have h3 : (2 * (x &&& y)) / 2 = x &&& y := by omega
    rw [Nat.testBit_and, Nat.testBit_succ, Nat.testBit_succ, Nat.testBit_succ, h1, h2, h3, Nat.testBit_and]
theorem land_odd2 (x y : Nat) : (2 * x + 1) &&& (2 * y + 1) = 2 * (x &&& y) + 1 := by
  apply Nat.eq_of_testBit_eq
  intro i
  cases i with
  | zero => simp
  | succ i =>
    have h1 : (2 * x + 1) / 2 = x := by omega
    have h2 : (2 * y + 1) / 2 = y := by omega
    have h3 : (2 * (x &&& y) + 1) / 2 = x &&& y := by omega
    rw [Nat.testBit_and, Nat.testBit_succ, Nat.testBit_succ, Nat.testBit_succ, h1, h2, h3, Nat.testBit_and]
theorem land_pow (a x y : Nat) : (2 ^ a * x) &&& (2 ^ a * y) = 2 ^ a * (x &&& y) := by
  induction a with
  | zero => simp
  | succ a ih =>
    have e : ∀ z, 2 ^ (a + 1) * z = 2 * (2 ^ a * z) := fun z => by rw [Nat.pow_succ]; simp [Nat.mul_comm, Nat.mul_left_comm]
    rw [e, e, e, land_dbl, ih]

theorem land_neg (m k : Nat) (h0 : 0 < k) (hk : k < 2 ^ m) : k &&& (2 ^ m - k) = Fen.lb k := by
  obtain ⟨a, b, rfl⟩ := Fen.splits h0
  have ham : a < m := by
    have h1 : 2 ^ a ≤ 2 ^ a * (2 * b + 1) := Nat.le_mul_of_pos_right _ (by omega)
    exact (Nat.pow_lt_pow_iff_right (by omega)).1 (Nat.lt_of_le_of_lt h1 hk)
  obtain ⟨d, rfl⟩ : ∃ d, m = a + (d + 1) := ⟨m - a - 1, by omega⟩
  have hp := Nat.two_pow_pos a
  have e1 : 2 ^ (a + (d + 1)) = 2 ^ a * (2 * 2 ^ d) := by rw [Nat.pow_add, Nat.pow_succ]; simp [Nat.mul_comm, Nat.mul_left_comm]
  rw [e1] at hk ⊢
  have hb : 2 * b + 1 < 2 * 2 ^ d := Nat.lt_of_mul_lt_mul_left hk
  have e2 : 2 ^ a * (2 * 2 ^ d) - 2 ^ a * (2 * b + 1) = 2 ^ a * (2 * (2 ^ d - (b + 1)) + 1) := by
    rw [← Nat.mul_sub]
    congr 1
    omega
  rw [e2, land_pow, land_odd2, Fen.lb_of]
  have e3 : b &&& (2 ^ d - (b + 1)) = 0 := by
    apply Nat.eq_of_testBit_eq
    intro i
    rw [Nat.testBit_and, Nat.testBit_two_pow_sub_succ (by omega)]
    simp
    intro h1 _
    exact h1
  rw [e3]; simp

theorem and_neg (k : Nat) (h0 : 0 < k) (hk : k ≤ 65536) : bits .and .i64 (k : Int) (-(k : Int)) = (Fen.lb k : Int) := by
  have h1 : (BitVec.ofInt 64 (k : Int)).toNat = k := by rw [BitVec.ofInt_natCast, BitVec.toNat_ofNat]; exact Nat.mod_eq_of_lt (by omega)
  have h2 : (BitVec.ofInt 64 (-(k : Int))).toNat = 2 ^ 64 - k := by
    rw [BitVec.toNat_ofInt]
    omega
  show IntKind.i64.wrap ((BitVec.ofInt 64 (k : Int) &&& BitVec.ofInt 64 (-(k : Int))).toNat : Int) = _
  rw [BitVec.toNat_and, h1, h2, land_neg 64 k h0 (by omega)]
  have := Fen.lb_le k
  exact wraps_i64 _ (by omega) (by omega)
end Go.Proofs.Qxb6615931a.Us
