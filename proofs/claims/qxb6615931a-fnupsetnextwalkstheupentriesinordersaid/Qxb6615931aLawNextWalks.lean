/-
  THE WALK of FnUpSetNextWalksTheUpEntriesInOrder.
-/
import Derived.Test.Qxb6615931aNextPrev
namespace Go.Proofs.Qxb6615931a.Us
open Go.RowKit

set_option maxHeartbeats 1000000 in
theorem law_next_walks (a : Option Addr) (n c : Nat) (wt : Nat → Int) (up : Nat → Bool) (w : World) (hn : n ≤ maxLen) (hE : Entries w a n wt up) :
    Calls Try.prog 4 #[.slice a n c] w fun e w' => e = .returned (.bool true) ∧ Below w.heap.size w w' := by
  have HE := hide hE
  have HB := hide (bytes11 a n c w hn)
  unfold maxLen at hn
  clear hE
  go_enter Try.func4, Try.ntmps4
  go_wp2_with fail
  refine HB.out.mono ?_
  rintro e w' ⟨r, rfl, rfl, _⟩
  clear HB
  cases r with
  | false =>
    go_wp2_with fail
    go_ret
    exact ⟨rfl, Below.refl _ _⟩
  | true =>
    by_cases g1 : (65536 : Int) < n
    · go_wp2_with fail
      go_ret
      exact ⟨rfl, Below.refl _ _⟩
    have hn2 : (n : Int) ≤ 65536 := by omega
    go_wp2_with fail
    refine (domain a n c wt up _ hn2 HE.out).mono ?_
    rintro e w' ⟨r, rfl, rfl, hr⟩
    cases r with
    | false =>
      go_wp2_with fail
      go_ret
      exact ⟨rfl, Below.refl _ _⟩
    | true =>
      have HD := hide (hr rfl)
      clear hr
      go_wp2_with fail
      refine (up_set a n c wt up _ hn2 HE.out HD.out).mono ?_
      rintro e w2 ⟨B, R, ex, rfl, hU, hB, hR, hb⟩
      have HU := hide hU
      have HW := hide hb
      have HE2 := hide (entries_later HE.out hb)
      clear hU hb HE
      go_wp2_with fail
      refine (up_next _ B n ex R _ HU.out 0).mono ?_
      rintro e w3 ⟨g, rfl, hg, rfl⟩
      have HG := hide hg
      clear hg
      go_wp2_with fail
      go_loop [4, 5] (fun t j => ∃ (k : Nat) (z : Int), k ≤ n ∧ j = .int .i64 k ∧ t = .int .i64 z ∧ Hid (Fen.Next (uw n wt up) n k z)) (fun _ j => n - (intOf j).toNat)
      case atStart => exact ⟨0, g, Nat.zero_le _, rfl, rfl, HG.out⟩
      case round =>
        clear HG
        obtain ⟨k, z, hk, rfl, rfl, HZ⟩ := hrel
        by_cases hlt : k < n
        · obtain ⟨b, off, hbb, ha, e0, e1, _, _⟩ := HE2.out k hlt
          subst ha
          clear e0
          cases hup : up k with
          | true =>
            rw [hup] at e1
            have hpos := hide (uw_up HD.out hlt hup)
            have hz : z = k := next_hit HZ.out hlt hpos.out
            subst hz
            go_wp2_with fail
            refine (up_prev _ B n ex R _ HU.out k (by omega) (by omega)).mono ?_
            rintro e w4 ⟨g2, rfl, hg2, rfl⟩
            have hz : g2 = k := prev_hit hg2 hlt hpos.out
            subst hz
            clear hg2
            go_wp2_with fail
            refine (up_next _ B n ex R _ HU.out ((k : Int) + 1)).mono ?_
            rintro e w5 ⟨g3, rfl, hg3, rfl⟩
            have HG3 := hide hg3
            clear hg3
            go_wp2_with fail
            go_round
            case rel => exact ⟨k + 1, g3, by omega, by go_num, rfl, HG3.out⟩
            case measure => simp [intOf]; omega
          | false =>
            rw [hup] at e1
            have HZ2 := hide (next_skip HZ.out (uw_down hup))
            go_wp2_with fail
            go_round
            case rel => exact ⟨k + 1, z, by omega, by go_num, rfl, HZ2.out⟩
            case measure => simp [intOf]; omega
        · have hkn : k = n := by omega
          subst hkn
          have hz : z = -1 := next_end HZ.out
          subst hz
          go_wp2_with fail
          go_ret
          exact ⟨rfl, HW.out⟩
end Go.Proofs.Qxb6615931a.Us
