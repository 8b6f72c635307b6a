/-
  THE WALK of FnUpSetNextIsFirstUpAtOrAfter.
-/
import Derived.Test.Qxb6615931aNextPrev
namespace Go.Proofs.Qxb6615931a.Us
open Go.RowKit

set_option maxHeartbeats 1000000 in
theorem law_next (a : Option Addr) (n c : Nat) (i : Int) (wt : Nat → Int) (up : Nat → Bool) (w : World) (hn : n ≤ maxLen) (hE : Entries w a n wt up) :
    Calls Try.prog 3 #[.slice a n c, .int .i64 i] w fun e w' => e = .returned (.bool true) ∧ Below w.heap.size w w' := by
  have HE := hide hE
  have HB := hide (bytes7 a n c i w hn)
  unfold maxLen at hn
  clear hE
  go_enter Try.func3, Try.ntmps3
  go_wp2_with fail
  refine HB.out.mono ?_
  rintro e w' ⟨r, rfl, rfl, _⟩
  clear HB
  cases r with
  | false =>
    go_wp2_with fail
    go_ret
    exact ⟨rfl, Below.refl _ _⟩
  | true =>
    by_cases g1 : (65536 : Int) < n
    · go_wp2_with fail
      go_ret
      exact ⟨rfl, Below.refl _ _⟩
    have hn2 : (n : Int) ≤ 65536 := by omega
    go_wp2_with fail
    refine (domain a n c wt up _ hn2 HE.out).mono ?_
    rintro e w' ⟨r, rfl, rfl, hr⟩
    cases r with
    | false =>
      go_wp2_with fail
      go_ret
      exact ⟨rfl, Below.refl _ _⟩
    | true =>
      have HD := hide (hr rfl)
      clear hr
      go_wp2_with fail
      refine (up_set a n c wt up _ hn2 HE.out HD.out).mono ?_
      rintro e w2 ⟨B, R, ex, rfl, hU, hB, hR, hb⟩
      have HU := hide hU
      have HW := hide hb
      have HE2 := hide (entries_later HE.out hb)
      clear hU hb HE
      go_wp2_with fail
      refine (up_next _ B n ex R _ HU.out i).mono ?_
      rintro e w3 ⟨g, rfl, hg, rfl⟩
      have HG := hide hg
      clear hg HU
      go_wp2_with fail
      go_loop [7, 8] (fun t j => t = .int .i64 (-1) ∧ ∃ k : Nat, k ≤ n ∧ j = .int .i64 k ∧ Hid (∀ e : Nat, e < k → i ≤ e → uw n wt up e = 0)) (fun _ j => n - (intOf j).toNat)
      case atStart => exact ⟨rfl, 0, Nat.zero_le _, rfl, fun e he => absurd he (Nat.not_lt_zero e)⟩
      case round =>
        obtain ⟨rfl, k, hk, rfl, HZ⟩ := hrel
        by_cases hlt : k < n
        · obtain ⟨b, off, hbb, ha, e0, e1, _, _⟩ := HE2.out k hlt
          subst ha
          clear e0
          by_cases hik : i ≤ k
          · cases hup : up k with
            | true =>
              rw [hup] at e1
              have HR := hide (next_is HG.out HZ.out hlt hik (uw_up HD.out hlt hup))
              go_wp2_with fail
              go_ret
              refine ⟨?_, HW.out⟩
              rw [HR.out]
              simp
            | false =>
              rw [hup] at e1
              have HZ2 : Hid (∀ e : Nat, e < k + 1 → i ≤ e → uw n wt up e = 0) := fun e he hx => by
                by_cases c : e = k
                · subst c; exact uw_down hup
                · exact HZ.out e (by omega) hx
              go_wp2_with fail
              go_round
              case rel => exact ⟨rfl, k + 1, by omega, by go_num, HZ2.out⟩
              case measure => simp [intOf]; omega
          · have HZ2 : Hid (∀ e : Nat, e < k + 1 → i ≤ e → uw n wt up e = 0) := fun e he hx => by
              by_cases c : e = k
              · subst c; omega
              · exact HZ.out e (by omega) hx
            go_wp2_with fail
            go_round
            case rel => exact ⟨rfl, k + 1, by omega, by go_num, HZ2.out⟩
            case measure => simp [intOf]; omega
        · have hkn : k = n := by omega
          subst hkn
          have HR := hide (next_isnt HG.out HZ.out)
          go_wp2_with fail
          go_ret
          refine ⟨?_, HW.out⟩
          rw [HR.out]; rfl
end Go.Proofs.Qxb6615931a.Us
