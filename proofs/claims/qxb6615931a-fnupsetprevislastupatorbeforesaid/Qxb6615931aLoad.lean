/-
  THE WALKS for upSet: the atomics; upBefore; findNow; nextNow; prevNow.
-/
import Derived.Test.Qxb6615931aProg
import Derived.Test.Qxb6615931aBits
import Derived.WalkKit
import Derived.WalkSpells
import Derived.WalkLawsBesides
import Derived.Laws.LoneSync
namespace Go.Proofs.Qxb6615931a.Us
open Go.RowKit

theorem hide {p : Prop} (h : p) : Hid p := h

/-- (*atomic.Int64).Load -/
theorem load_i (b o : Nat) (x : Int) (w : World) (h : w.cell? ⟨b, o, none⟩ = some (.int .i64 x)) :
    Calls Try.prog 33 #[.pointer (some ⟨b, o, none⟩)] w fun e w' => e = .returned (.int .i64 x) ∧ w' = w := by
  have hl := run_call_load (P := Try.prog) Try.func42 (by kernel_rfl) (by kernel_rfl) (by kernel_rfl) .i64 (by kernel_rfl) h
  go_enter Try.func33, Try.ntmps33
  go_wp2
  go_ret
  exact ⟨rfl, rfl⟩
/-- (*atomic.Uint64).Load -/
theorem load_u (b o : Nat) (x : Int) (w : World) (h : w.cell? ⟨b, o, none⟩ = some (.int .u64 x)) :
    Calls Try.prog 25 #[.pointer (some ⟨b, o, none⟩)] w fun e w' => e = .returned (.int .u64 x) ∧ w' = w := by
  have hl := run_call_load (P := Try.prog) Try.func30 (by kernel_rfl) (by kernel_rfl) (by kernel_rfl) .u64 (by kernel_rfl) h
  go_enter Try.func25, Try.ntmps25
  go_wp2
  go_ret
  exact ⟨rfl, rfl⟩
/-- (*atomic.Int64).Store -/
theorem store_i (b o : Nat) (u : Value) (x : Int) (w : World) (h : w.cell? ⟨b, o, none⟩ = some u) (hf : w.frozen? ⟨b, o, none⟩ = false) :
    Calls Try.prog 18 #[.pointer (some ⟨b, o, none⟩), .int .i64 x] w fun e w' => e = .returned (.tuple #[]) ∧ w' = w.setCell ⟨b, o, none⟩ (.int .i64 x) := by
  have hl := run_call_store (P := Try.prog) Try.func23 (by kernel_rfl) (by kernel_rfl) (by kernel_rfl) (by kernel_rfl) (k := .i64) (y := x) h hf
  go_enter Try.func18, Try.ntmps18
  go_wp2
  go_end0
  exact ⟨rfl, rfl⟩
/-- (*atomic.Uint64).Store -/
theorem store_u (b o : Nat) (u : Value) (x : Int) (w : World) (h : w.cell? ⟨b, o, none⟩ = some u) (hf : w.frozen? ⟨b, o, none⟩ = false) :
    Calls Try.prog 19 #[.pointer (some ⟨b, o, none⟩), .int .u64 x] w fun e w' => e = .returned (.tuple #[]) ∧ w' = w.setCell ⟨b, o, none⟩ (.int .u64 x) := by
  have hl := run_call_store (P := Try.prog) Try.func24 (by kernel_rfl) (by kernel_rfl) (by kernel_rfl) (by kernel_rfl) (k := .u64) (y := x) h hf
  go_enter Try.func19, Try.ntmps19
  go_wp2
  go_end0
  exact ⟨rfl, rfl⟩

/-- The step of the descent. -/
def stepOf : Nat → Nat
  | 0 => 0
  | a + 1 => 2 ^ a

/-- The upSet at B: the tree of u, of n entries; 'e': the exponent of the greatest step. -/
structure UpAt (w : World) (B n e : Nat) (u : Nat → Int) (R : Nat) : Prop where
  tree : w.cell? ⟨B, 2, none⟩ = some (.slice (some ⟨R, 0, none⟩) (n + 1) (n + 1))
  top : w.cell? ⟨B, 3, none⟩ = some (.int .i64 (stepOf e))
  total : w.cell? ⟨B, 4, none⟩ = some (.int .i64 (Fen.S u n))
  version : w.cell? ⟨B, 8, none⟩ = some (.int .u64 0)
  node : ∀ j, 1 ≤ j → j ≤ n → w.cell? ⟨R, j, none⟩ = some (.int .i64 (Fen.T u j))
  upto : n < 2 ^ e
  step : stepOf e ≤ 65536
  small : n ≤ 65536
  pos : ∀ e, 0 ≤ u e
  fits : Fen.S u n ≤ 9223372036854775807

set_option maxHeartbeats 400000 in
/-- Nothing lies before entry 0. -/
theorem up_before_low (w : World) (B : Nat) (u : Nat → Int) (i : Int) (hi : i ≤ 0) :
    Calls Try.prog 29 #[.pointer (some ⟨B, 0, none⟩), .int .i64 i] w fun e w' => e = .returned (.int .i64 (Fen.S u i.toNat)) ∧ w' = w := by
  have hf : Hid (Fen.S u i.toNat = 0) := by
    have : i.toNat = 0 := by omega
    show Fen.S u i.toNat = 0
    rw [this]; rfl
  go_enter Try.func29, Try.ntmps29
  go_wp2_with fail
  go_loop [5, 6] (fun b j => b = .int .i64 0 ∧ j = .int .i64 i) (fun _ _ => 0)
  case atStart => exact ⟨rfl, rfl⟩
  case round =>
    obtain ⟨rfl, rfl⟩ := hrel
    go_wp2_with fail
    go_ret
    refine ⟨?_, rfl⟩
    rw [hf.out]; rfl

set_option maxHeartbeats 400000 in
/-- 'upBefore': what the entries up before entry i weigh. -/
theorem up_before_nat (w : World) (B n e R : Nat) (u : Nat → Int) (h : UpAt w B n e u R) (i : Nat) (hi : i ≤ n) :
    Calls Try.prog 29 #[.pointer (some ⟨B, 0, none⟩), .int .i64 i] w fun e w' => e = .returned (.int .i64 (Fen.S u i)) ∧ w' = w := by
  have ht := h.tree
  have hn : (n : Int) ≤ 65536 := by have := h.small; omega
  go_enter Try.func29, Try.ntmps29
  go_wp2_with fail
  go_loop [5, 6] (fun b j => ∃ (k : Nat) (z : Int), k ≤ i ∧ j = .int .i64 k ∧ b = .int .i64 z ∧ Hid (z = Fen.S u i - Fen.S u k)) (fun _ j => (intOf j).toNat)
  case atStart => exact ⟨i, 0, Nat.le_refl _, rfl, rfl, by show (0 : Int) = Fen.S u i - Fen.S u i; omega⟩
  case round =>
    obtain ⟨k, z, hk, rfl, rfl, HZ⟩ := hrel
    by_cases hk0 : 0 < k
    · have HN := hide (h.node k hk0 (by omega))
      have hz : 0 ≤ z ∧ 0 ≤ Fen.T u k ∧ z + Fen.T u k ≤ 9223372036854775807 := by
        have h1 := HZ.out
        have h2 := Fen.S_mono h.pos k i hk
        have h3 := Fen.S_mono h.pos i n hi
        have h4 := h.fits
        have h5 := (Fen.T_range h.pos (n := n) (k := k) (by omega)).1
        have h6 := Fen.S_nonneg h.pos (k - Fen.lb k)
        have h7 : Fen.T u k = Fen.S u k - Fen.S u (k - Fen.lb k) := rfl
        refine ⟨by omega, h5, by omega⟩
      obtain ⟨hz0, hT0, hz1⟩ := hz
      have hand := and_pred k hk0 (by omega)
      have HS : Hid (z + Fen.T u k = Fen.S u i - Fen.S u (k - Fen.lb k)) := by
        have h1 := HZ.out
        have h7 : Fen.T u k = Fen.S u k - Fen.S u (k - Fen.lb k) := rfl
        show z + Fen.T u k = Fen.S u i - Fen.S u (k - Fen.lb k)
        omega
      have hlb := Fen.lb_pos hk0
      go_wp2_with (go_at_call 33; refine (load_i _ _ _ _ HN.out).mono ?_; rintro e w' ⟨rfl, rfl⟩)
      go_round
      case rel => exact ⟨k - Fen.lb k, _, by omega, rfl, rfl, HS.out⟩
      case measure => simp [intOf]; omega
    · have hk1 : k = 0 := by omega
      subst hk1
      have HR : Hid (z = Fen.S u i) := by
        have h1 := HZ.out
        have h2 : Fen.S u 0 = 0 := rfl
        show z = Fen.S u i
        omega
      go_wp2_with fail
      go_ret
      refine ⟨?_, rfl⟩
      rw [← HR.out]; rfl

theorem up_before (w : World) (B n e R : Nat) (u : Nat → Int) (h : UpAt w B n e u R) (i : Int) (hi : i ≤ n) :
    Calls Try.prog 29 #[.pointer (some ⟨B, 0, none⟩), .int .i64 i] w fun e w' => e = .returned (.int .i64 (Fen.S u i.toNat)) ∧ w' = w := by
  by_cases h0 : i ≤ 0
  · exact up_before_low w B u i h0
  · obtain ⟨k, rfl⟩ := Int.eq_ofNat_of_zero_le (show 0 ≤ i by omega)
    rw [Int.toNat_natCast]
    exact up_before_nat w B n e R u h k (by omega)

theorem stepOf_half (a : Nat) : (stepOf (a + 1) : Int) / 2 = (stepOf a : Int) := by
  cases a with
  | zero => rfl
  | succ a =>
    show ((2 ^ (a + 1) : Nat) : Int) / 2 = ((2 ^ a : Nat) : Int)
    rw [Nat.pow_succ]; omega
theorem stepOf_le (a : Nat) : stepOf a ≤ stepOf (a + 1) := by
  have := stepOf_half a; omega

set_option maxHeartbeats 400000 in
theorem find_now (w : World) (B n e R : Nat) (u : Nat → Int) (h : UpAt w B n e u R) (r0 : Int) (hr1 : r0 ≤ 9223372036854775807) :
    Calls Try.prog 28 #[.pointer (some ⟨B, 0, none⟩), .int .i64 r0] w fun e w' => ∃ g, e = .returned (.int .i64 g) ∧ Fen.Found u n r0 g ∧ w' = w := by
  have ht := h.tree
  have hn : (n : Int) ≤ 65536 := by have := h.small; omega
  have htop := h.top
  by_cases c1 : r0 < 0
  · go_enter Try.func28, Try.ntmps28
    go_wp2_with fail
    go_ret
    exact ⟨-1, rfl, .inl ⟨.inl c1, rfl⟩, rfl⟩
  by_cases c2 : Fen.S u n ≤ r0
  · go_enter Try.func28, Try.ntmps28
    go_wp2_with (go_at_call 33; refine (load_i _ _ _ _ h.total).mono ?_; rintro e w' ⟨rfl, rfl⟩)
    go_ret
    exact ⟨-1, rfl, .inl ⟨.inr c2, rfl⟩, rfl⟩
  go_enter Try.func28, Try.ntmps28
  go_wp2_with (go_at_call 33; refine (load_i _ _ _ _ h.total).mono ?_; rintro e w' ⟨rfl, rfl⟩)
  go_loop [1, 5, 6] (fun r i st => ∃ (x : Int) (k a : Nat), r = .int .i64 x ∧ i = .int .i64 k ∧ st = .int .i64 (stepOf a) ∧ stepOf a ≤ 65536 ∧ Hid (Fen.Down u n r0 k x a)) (fun _ _ st => (intOf st).toNat)
  case atStart => exact ⟨r0, 0, e, rfl, rfl, rfl, h.step, Fen.down_start (by omega) e h.upto⟩
  case round =>
    obtain ⟨x, k, a, rfl, rfl, rfl, hst, HD⟩ := hrel
    cases a with
    | zero =>
      have hs0 : stepOf 0 = 0 := rfl
      have HF := hide (Fen.down_end HD.out (by omega) (by omega))
      go_wp2_with fail
      go_ret
      exact ⟨_, rfl, HF.out, rfl⟩
    | succ a =>
      have hpow : (0 : Int) < stepOf (a + 1) := by have := Nat.two_pow_pos a; show (0 : Int) < ((2 ^ a : Nat) : Int); omega
      have hk : (k : Int) ≤ n := by have := HD.out.1; omega
      have hst2 : (stepOf (a + 1) : Int) ≤ 65536 := by omega
      have hhalf := stepOf_half a
      have hlt : (stepOf a : Int) < stepOf (a + 1) := by omega
      have hle : stepOf a ≤ 65536 := by omega
      have hx : x ≤ 9223372036854775807 := by
        have h1 := HD.out.2.2.1
        have h2 := Fen.S_nonneg h.pos k
        omega
      by_cases hj : k + stepOf (a + 1) ≤ n
      · have HN := hide (h.node (k + stepOf (a + 1)) (by omega) hj)
        have hT0 := (Fen.T_range h.pos (n := n) (k := k + stepOf (a + 1)) hj).1
        by_cases hT : Fen.T u (k + stepOf (a + 1)) ≤ x
        · have HD2 := hide (Fen.down_take HD.out hj hT)
          go_wp2_with (go_at_call 33; refine (load_i _ _ _ _ HN.out).mono ?_; rintro e w' ⟨rfl, rfl⟩)
          go_round
          case rel => exact ⟨_, k + stepOf (a + 1), a, rfl, by go_num, rfl, hle, HD2.out⟩
          case measure => simp [intOf]; omega
        · have HD2 := hide (Fen.down_leave HD.out (fun _ => by show x < Fen.T u (k + stepOf (a + 1)); omega))
          go_wp2_with (go_at_call 33; refine (load_i _ _ _ _ HN.out).mono ?_; rintro e w' ⟨rfl, rfl⟩)
          go_round
          case rel => exact ⟨x, k, a, rfl, rfl, rfl, hle, HD2.out⟩
          case measure => simp [intOf]; omega
      · have HD2 := hide (Fen.down_leave HD.out (fun hc => absurd hc hj))
        go_wp2_with fail
        go_round
        case rel => exact ⟨x, k, a, rfl, rfl, rfl, hle, HD2.out⟩
        case measure => simp [intOf]; omega

set_option maxHeartbeats 400000 in
/-- 'nextNow'. -/
theorem next_now (w : World) (B n e R : Nat) (u : Nat → Int) (h : UpAt w B n e u R) (x : Int) :
    Calls Try.prog 21 #[.pointer (some ⟨B, 0, none⟩), .int .i64 x] w fun e w' => ∃ g, e = .returned (.int .i64 g) ∧ Fen.Next u n x g ∧ w' = w := by
  have ht := h.tree
  have hn : (n : Int) ≤ 65536 := by have := h.small; omega
  by_cases c : (n : Int) ≤ x
  · go_enter Try.func21, Try.ntmps21
    go_wp2_with fail
    go_ret
    exact ⟨-1, rfl, Fen.next_none c, rfl⟩
  · have HS : Hid (Fen.S u x.toNat ≤ 9223372036854775807) := by
      have h1 := Fen.S_mono h.pos x.toNat n (by omega)
      have h2 := h.fits
      exact Int.le_trans h1 h2
    go_enter Try.func21, Try.ntmps21
    go_wp2_with fail
    refine (up_before _ B n e R u h x (by omega)).mono ?_
    rintro e w' ⟨rfl, rfl⟩
    go_wp2_with fail
    refine (find_now _ B n _ R u h _ HS.out).mono ?_
    rintro e w' ⟨g, rfl, hg, rfl⟩
    go_wp2_with fail
    go_ret
    exact ⟨g, rfl, Fen.next_of h.pos hg, rfl⟩

set_option maxHeartbeats 400000 in
/-- 'prevNow'. -/
theorem prev_now (w : World) (B n e R : Nat) (u : Nat → Int) (h : UpAt w B n e u R) (x : Int) (hx : x < n) (hx0 : -9223372036854775808 ≤ x) :
    Calls Try.prog 22 #[.pointer (some ⟨B, 0, none⟩), .int .i64 x] w fun e w' => ∃ g, e = .returned (.int .i64 g) ∧ Fen.Prev u n x g ∧ w' = w := by
  have hn : (n : Int) ≤ 65536 := by have := h.small; omega
  have HS : Hid (0 ≤ Fen.S u (x + 1).toNat ∧ Fen.S u (x + 1).toNat ≤ 9223372036854775807) := by
    have h1 := Fen.S_mono h.pos (x + 1).toNat n (by omega)
    have h2 := h.fits
    exact ⟨Fen.S_nonneg h.pos _, Int.le_trans h1 h2⟩
  go_enter Try.func22, Try.ntmps22
  go_wp2_with fail
  refine (up_before _ B n e R u h (x + 1) (by omega)).mono ?_
  rintro e w' ⟨rfl, rfl⟩
  obtain ⟨hs0, hs1⟩ := HS.out
  go_wp2_with fail
  refine (find_now _ B n _ R u h _ (by omega)).mono ?_
  rintro e w' ⟨g, rfl, hg, rfl⟩
  go_wp2_with fail
  go_ret
  exact ⟨g, rfl, Fen.prev_of h.pos hx hg, rfl⟩
end Go.Proofs.Qxb6615931a.Us
