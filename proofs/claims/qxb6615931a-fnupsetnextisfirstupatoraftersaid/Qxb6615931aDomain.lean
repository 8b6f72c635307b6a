/-
  THE WALKS for upSet's laws: the guards; zzUpDomain.
-/
import Derived.Test.Qxb6615931aLoad
namespace Go.Proofs.Qxb6615931a.Us
open Go.RowKit

/-- The slice of entries 'a', of n, holds weights wt and marks up. -/
def Entries (w : World) (a : Option Addr) (n : Nat) (wt : Nat → Int) (up : Nat → Bool) : Prop :=
  ∀ e, e < n → ∃ b off, b < w.heap.size ∧ a = some ⟨b, off, none⟩ ∧ w.cell? ⟨b, off + e * 2, none⟩ = some (.int .i64 (wt e)) ∧ w.cell? ⟨b, off + e * 2 + 1, none⟩ = some (.bool (up e)) ∧
    -9223372036854775808 ≤ wt e ∧ wt e ≤ 9223372036854775807

/-- Every weight is positive, and all of them add up within int64. -/
def Dom (n : Nat) (wt : Nat → Int) : Prop := (∀ e, e < n → 1 ≤ wt e) ∧ Fen.S wt n ≤ 9223372036854775807

def Answers (p : Prop) (w : World) (e : Ending) (w' : World) : Prop := ∃ r, e = .returned (.bool r) ∧ w' = w ∧ (r = true → p)
theorem answers_no (p : Prop) (w : World) : Answers p w (.returned (.bool false)) w := ⟨false, rfl, rfl, fun h => by cases h⟩
theorem answers_yes {p : Prop} {w : World} (h : p) : Answers p w (.returned (.bool true)) w := ⟨true, rfl, rfl, fun _ => h⟩

set_option maxHeartbeats 400000 in
theorem domain (a : Option Addr) (n c : Nat) (wt : Nat → Int) (up : Nat → Bool) (w : World) (hn : (n : Int) ≤ 65536) (hE : Entries w a n wt up) :
    Calls Try.prog 8 #[.slice a n c] w (Answers (Dom n wt) w) := by
  have HE := hide hE
  clear hE
  go_enter Try.func8, Try.ntmps8
  go_wp2
  go_loop [3, 4] (fun z i => ∃ (k : Nat) (x : Int), k ≤ n ∧ i = .int .i64 k ∧ z = .int .i64 x ∧ 0 ≤ x ∧ x ≤ 9223372036854775807 ∧ Hid (x = Fen.S wt k ∧ ∀ e, e < k → 1 ≤ wt e)) (fun _ i => n - (intOf i).toNat)
  case atStart => exact ⟨0, 0, Nat.zero_le _, rfl, rfl, by omega, by omega, rfl, fun e he => absurd he (Nat.not_lt_zero e)⟩
  case round =>
    obtain ⟨k, x, hk, rfl, rfl, hx0, hx1, HX⟩ := hrel
    by_cases hlt : k < n
    · obtain ⟨b, off, hb, ha, c0, c1, b0, b1⟩ := HE.out k hlt
      subst ha
      generalize hwk : wt k = v at *
      have HV := hide hwk
      clear hwk c1
      by_cases q1 : v < 1
      · go_wp2
        go_ret
        exact answers_no _ _
      by_cases q2 : 9223372036854775807 - x < v
      · go_wp2
        go_ret
        exact answers_no _ _
      · go_wp2
        go_round
        case rel => exact ⟨k + 1, x + v, by omega, by go_num, rfl, by omega, by omega, by have h1 := HX.out.1; have h2 := HV.out; show x + v = Fen.S wt k + wt k; omega, fun e he => by
          by_cases h : e = k
          · subst h; rw [HV.out]; omega
          · exact HX.out.2 e (by omega)⟩
        case measure => simp [intOf]; omega
    · have hkn : k = n := by omega
      subst hkn
      have HD : Hid (Dom k wt) := ⟨HX.out.2, by have := HX.out.1; omega⟩
      go_wp2
      go_ret
      exact answers_yes HD.out
end Go.Proofs.Qxb6615931a.Us
