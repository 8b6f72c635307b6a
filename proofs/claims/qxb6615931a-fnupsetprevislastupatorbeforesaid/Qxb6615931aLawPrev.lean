/-
  THE WALK of FnUpSetPrevIsLastUpAtOrBefore.
-/
import Derived.Test.Qxb6615931aNextPrev
namespace Go.Proofs.Qxb6615931a.Us
open Go.RowKit

set_option maxHeartbeats 1000000 in
theorem law_prev (a : Option Addr) (n c : Nat) (i : Int) (wt : Nat → Int) (up : Nat → Bool) (w : World) (hn : n ≤ maxLen) (hi0 : -9223372036854775808 ≤ i) (hE : Entries w a n wt up) :
    Calls Try.prog 5 #[.slice a n c, .int .i64 i] w fun e w' => e = .returned (.bool true) ∧ Below w.heap.size w w' := by
  have HE := hide hE
  have HB := hide (bytes13 a n c i w hn)
  unfold maxLen at hn
  clear hE
  go_enter Try.func5, Try.ntmps5
  go_wp2_with fail
  refine HB.out.mono ?_
  rintro e w' ⟨r, rfl, rfl, _⟩
  clear HB
  cases r with
  | false =>
    go_wp2_with fail
    go_ret
    exact ⟨rfl, Below.refl _ _⟩
  | true =>
    by_cases g1 : (65536 : Int) < n
    · go_wp2_with fail
      go_ret
      exact ⟨rfl, Below.refl _ _⟩
    have hn2 : (n : Int) ≤ 65536 := by omega
    by_cases g2 : (n : Int) ≤ i
    · go_wp2_with fail
      go_ret
      exact ⟨rfl, Below.refl _ _⟩
    go_wp2_with fail
    refine (domain a n c wt up _ hn2 HE.out).mono ?_
    rintro e w' ⟨r, rfl, rfl, hr⟩
    cases r with
    | false =>
      go_wp2_with fail
      go_ret
      exact ⟨rfl, Below.refl _ _⟩
    | true =>
      have HD := hide (hr rfl)
      clear hr
      go_wp2_with fail
      refine (up_set a n c wt up _ hn2 HE.out HD.out).mono ?_
      rintro e w2 ⟨B, R, ex, rfl, hU, hB, hR, hb⟩
      have HU := hide hU
      have HW := hide hb
      have HE2 := hide (entries_later HE.out hb)
      clear hU hb HE
      go_wp2_with fail
      refine (up_prev _ B n ex R _ HU.out i (by omega) hi0).mono ?_
      rintro e w3 ⟨g, rfl, hg, rfl⟩
      have HG := hide hg
      clear hg HU
      go_wp2_with fail
      go_loop [7, 8] (fun t j => ∃ (k : Nat) (z : Int), k ≤ n ∧ j = .int .i64 k ∧ t = .int .i64 z ∧ Hid (Fen.Prev (uw n wt up) k i z)) (fun _ j => n - (intOf j).toNat)
      case atStart => exact ⟨0, -1, Nat.zero_le _, rfl, rfl, prev_zero _ _⟩
      case round =>
        obtain ⟨k, z, hk, rfl, rfl, HZ⟩ := hrel
        by_cases hlt : k < n
        · obtain ⟨b, off, hbb, ha, e0, e1, _, _⟩ := HE2.out k hlt
          subst ha
          clear e0
          by_cases hik : (k : Int) ≤ i
          · cases hup : up k with
            | true =>
              rw [hup] at e1
              have HZ2 := hide (prev_take (u := uw n wt up) hik (uw_up HD.out hlt hup))
              go_wp2_with fail
              go_round
              case rel => exact ⟨k + 1, k, by omega, by go_num, rfl, HZ2.out⟩
              case measure => simp [intOf]; omega
            | false =>
              rw [hup] at e1
              have HZ2 := hide (prev_leave HZ.out (.inr (uw_down hup)))
              go_wp2_with fail
              go_round
              case rel => exact ⟨k + 1, z, by omega, by go_num, rfl, HZ2.out⟩
              case measure => simp [intOf]; omega
          · have HZ2 := hide (prev_leave HZ.out (.inl (by omega)))
            go_wp2_with fail
            go_round
            case rel => exact ⟨k + 1, z, by omega, by go_num, rfl, HZ2.out⟩
            case measure => simp [intOf]; omega
        · have hkn : k = n := by omega
          subst hkn
          have HR := hide (Fen.prev_unique HG.out HZ.out)
          go_wp2_with fail
          go_ret
          refine ⟨?_, HW.out⟩
          rw [HR.out]
          simp
end Go.Proofs.Qxb6615931a.Us
