/-
  THE WALK of FnUpSetPrevWalksTheUpEntriesBackwards.
-/
import Derived.Test.Qxb6615931aNextPrev
namespace Go.Proofs.Qxb6615931a.Us
open Go.RowKit

set_option maxHeartbeats 1000000 in
theorem law_prev_walks (a : Option Addr) (n c : Nat) (wt : Nat → Int) (up : Nat → Bool) (w : World) (hn : n ≤ maxLen) (hE : Entries w a n wt up) :
    Calls Try.prog 6 #[.slice a n c] w fun e w' => e = .returned (.bool true) ∧ Below w.heap.size w w' := by
  have HE := hide hE
  have HB := hide (bytes14 a n c w hn)
  unfold maxLen at hn
  clear hE
  go_enter Try.func6, Try.ntmps6
  go_wp2_with fail
  refine HB.out.mono ?_
  rintro e w' ⟨r, rfl, rfl, _⟩
  clear HB
  cases r with
  | false =>
    go_wp2_with fail
    go_ret
    exact ⟨rfl, Below.refl _ _⟩
  | true =>
    by_cases g1 : (65536 : Int) < n
    · go_wp2_with fail
      go_ret
      exact ⟨rfl, Below.refl _ _⟩
    have hn2 : (n : Int) ≤ 65536 := by omega
    go_wp2_with fail
    refine (domain a n c wt up _ hn2 HE.out).mono ?_
    rintro e w' ⟨r, rfl, rfl, hr⟩
    cases r with
    | false =>
      go_wp2_with fail
      go_ret
      exact ⟨rfl, Below.refl _ _⟩
    | true =>
      have HD := hide (hr rfl)
      clear hr
      go_wp2_with fail
      refine (up_set a n c wt up _ hn2 HE.out HD.out).mono ?_
      rintro e w2 ⟨B, R, ex, rfl, hU, hB, hR, hb⟩
      have HU := hide hU
      have HW := hide hb
      have HE2 := hide (entries_later HE.out hb)
      clear hU hb HE
      go_wp2_with fail
      refine (up_prev _ B n ex R _ HU.out ((n : Int) - 1) (by omega) (by omega)).mono ?_
      rintro e w3 ⟨g, rfl, hg, rfl⟩
      have HG := hide hg
      clear hg
      go_wp2_with fail
      go_loop [4, 5] (fun t j => ∃ (k : Nat) (z : Int), k ≤ n ∧ j = .int .i64 ((k : Int) - 1) ∧ t = .int .i64 z ∧ Hid (Fen.Prev (uw n wt up) n ((k : Int) - 1) z)) (fun _ j => (intOf j + 1).toNat)
      case atStart => exact ⟨n, g, Nat.le_refl _, rfl, rfl, HG.out⟩
      case round =>
        clear HG
        obtain ⟨k1, z, hk, rfl, rfl, HZ⟩ := hrel
        cases k1 with
        | succ k =>
          have hlt : k < n := by omega
          have ek : ((k + 1 : Nat) : Int) - 1 = k := by omega
          rw [ek] at HZ
          simp only [ek]
          obtain ⟨b, off, hbb, ha, e0, e1, _, _⟩ := HE2.out k hlt
          subst ha
          clear e0 ek
          cases hup : up k with
          | true =>
            rw [hup] at e1
            have hpos := hide (uw_up HD.out hlt hup)
            have hz : z = k := prev_hit HZ.out hlt hpos.out
            subst hz
            go_wp2_with fail
            refine (up_next _ B n ex R _ HU.out k).mono ?_
            rintro e w4 ⟨g2, rfl, hg2, rfl⟩
            have hz : g2 = k := next_hit hg2 hlt hpos.out
            subst hz
            clear hg2
            go_wp2_with fail
            refine (up_prev _ B n ex R _ HU.out ((k : Int) - 1) (by omega) (by omega)).mono ?_
            rintro e w5 ⟨g3, rfl, hg3, rfl⟩
            have HG3 := hide hg3
            clear hg3
            go_wp2_with fail
            go_round
            case rel => exact ⟨k, g3, by omega, rfl, rfl, HG3.out⟩
            case measure => simp [intOf]
          | false =>
            rw [hup] at e1
            have HZ2 := hide (prev_skip HZ.out (uw_down hup))
            go_wp2_with fail
            go_round
            case rel => exact ⟨k, z, by omega, rfl, rfl, HZ2.out⟩
            case measure => simp [intOf]
        | zero =>
          have hz : z = -1 := prev_end HZ.out
          subst hz
          go_wp2_with fail
          go_ret
          exact ⟨rfl, HW.out⟩
end Go.Proofs.Qxb6615931a.Us
