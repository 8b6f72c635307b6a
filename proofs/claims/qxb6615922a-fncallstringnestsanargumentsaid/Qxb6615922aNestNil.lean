/-
  THE WALK of FnCallStringNestsAnArgument at a nil slice.
-/
import Derived.Test.Qxb6615922aNestWalk
namespace Go.Proofs.Qxb6615922a.Cs
open Go.RowKit

set_option maxRecDepth 100000 in
set_option maxHeartbeats 1000000 in
theorem nest_nil (f g : ByteArray) (w : World) (hf : f.size ≤ maxLen) (hg : g.size ≤ maxLen) :
    Calls Try.prog 6 #[.string f, .string g, .slice none 0 0] w fun e w' => e = .returned (.bool true) ∧ Below w.heap.size w w' := by
  have hb1 := hide (bytes2 f g none 0 0 (fun _ => f) w hf hg (by unfold maxLen; omega) (fun j hj => absurd hj (Nat.not_lt_zero j)) (fun j hj => absurd hj (Nat.not_lt_zero j)))
  unfold maxLen at hf hg
  go_enter Try.func6, Try.ntmps6
  go_wp2_with fail
  refine hb1.out.mono ?_
  rintro e w' ⟨r, rfl, rfl, _⟩
  clear hb1
  cases r with
  | false =>
    go_wp2_with fail
    go_ret
    exact ⟨rfl, Below.refl _ _⟩
  | true =>
    by_cases g0 : 65536 < f.size
    · go_wp2_with fail
      go_ret
      exact ⟨rfl, Below.refl _ _⟩
    by_cases g1 : 65536 < g.size
    · go_wp2_with fail
      go_ret
      exact ⟨rfl, Below.refl _ _⟩
    have hne : ∀ W : World, (binOp .neq 25 (.slice none 0 0) (.slice none 0 0)).run Try.prog W = .ok (.bool false) W := fun W => by kernel_rfl
    go_wp2_with fail
    clear hne
    go_loop [8, 9] (fun t i => t = .int .i64 (f.size + g.size) ∧ i = .int .i64 0) (fun _ _ => 0)
    case atStart => exact ⟨rfl, rfl⟩
    case round =>
      obtain ⟨rfl, rfl⟩ := hrel
      have HZ : Hid (f.size + g.size + tot16 (fun _ => f) 0 ≤ 1048576) := by show f.size + g.size + 0 ≤ 1048576; omega
      go_wp2_with fail
      refine (nest_names f g none 0 0 (fun _ => f) _ (by omega) (fun j hj => absurd hj (Nat.not_lt_zero j)) (fun j hj => absurd hj (Nat.not_lt_zero j)) HZ.out).mono ?_
      rintro e w2 ⟨B, T, M, rfl, hT1, hT2, HT, HTs, H1⟩
      go_wp2_with fail
      refine H1.out.mono ?_
      rintro e w3 ⟨O, rfl, H2⟩
      clear H1
      go_wp2_with fail
      refine H2.out.mono ?_
      rintro e w4 ⟨rfl, H3⟩
      clear H2
      go_wp2_with fail
      refine H3.out.mono ?_
      rintro e w5 ⟨rfl, hb5⟩
      have HW5 := hide hb5
      clear H3 hb5
      go_wp2_with fail
      go_loop [14, 15] (fun t i => t = .int .i64 (g.size + 2) ∧ i = .int .i64 0) (fun _ _ => 0)
      case atStart => exact ⟨rfl, rfl⟩
      case round =>
        obtain ⟨rfl, rfl⟩ := hrel
        have hfs : (f.size : Int) ≤ 65536 := by omega
        have hq : ((T.size : Int) == (g.size : Int) + 2) = true := by
          have h3 := HTs.out
          simp only [tot2] at h3
          rw [beq_iff_eq]
          omega
        go_wp2_with fail
        refine (inner T _ M HT.out _ hT1).mono ?_
        rintro e wx ⟨rfl, rfl⟩
        go_wp2_with fail
        go_ret
        exact ⟨rfl, HW5.out⟩
end Go.Proofs.Qxb6615922a.Cs
