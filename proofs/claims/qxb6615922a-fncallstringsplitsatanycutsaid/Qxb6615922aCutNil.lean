/-
  THE WALK of FnCallStringSplitsAtAnyCut at a nil slice.
-/
import Derived.Test.Qxb6615922aCutWalk
namespace Go.Proofs.Qxb6615922a.Cs
open Go.RowKit

set_option maxRecDepth 100000 in
set_option maxHeartbeats 1000000 in
theorem cut_nil (fn : ByteArray) (k : Int) (w : World) (hfn : fn.size ≤ maxLen) :
    Calls Try.prog 5 #[.string fn, .slice none 0 0, .int .i64 k] w fun e w' => e = .returned (.bool true) ∧ Below w.heap.size w w' := by
  have hb1 := hide (bytes1 fn none 0 0 k (fun _ => fn) w hfn (by unfold maxLen; omega) (fun j hj => absurd hj (Nat.not_lt_zero j)) (fun j hj => absurd hj (Nat.not_lt_zero j)))
  unfold maxLen at hfn
  go_enter Try.func5, Try.ntmps5
  go_wp2_with fail
  refine hb1.out.mono ?_
  rintro e w' ⟨r, rfl, rfl, _⟩
  clear hb1
  cases r with
  | false =>
    go_wp2_with fail
    go_ret
    exact ⟨rfl, Below.refl _ _⟩
  | true =>
    by_cases g1 : 65536 < fn.size
    · go_wp2_with fail
      go_ret
      exact ⟨rfl, Below.refl _ _⟩
    have hne : ∀ W : World, (binOp .neq 25 (.slice none 0 0) (.slice none 0 0)).run Try.prog W = .ok (.bool false) W := fun W => by kernel_rfl
    go_wp2_with fail
    clear hne
    go_loop [8, 9] (fun t i => t = .int .i64 fn.size ∧ i = .int .i64 0) (fun _ _ => 0)
    case atStart => exact ⟨rfl, rfl⟩
    case round =>
      obtain ⟨rfl, rfl⟩ := hrel
      by_cases k1 : k < 0
      · go_wp2_with fail
        go_ret
        exact ⟨rfl, Below.refl _ _⟩
      by_cases k2 : 0 < k
      · go_wp2_with fail
        go_ret
        exact ⟨rfl, Below.refl _ _⟩
      obtain rfl : k = 0 := by omega
      have HZ : Hid (fn.size ≤ 1048576) := by show fn.size ≤ 1048576; omega
      go_wp2_with fail
      refine (say_none fn _ HZ.out).mono ?_
      rintro e w2 ⟨B1, rfl, HB1⟩
      go_wp2_with fail
      refine HB1.out.mono ?_
      rintro e w3 ⟨rfl, hb3⟩
      have HW3 := hide hb3
      clear HB1 hb3
      go_wp2_with fail
      refine (say_none fn _ HZ.out).mono ?_
      rintro e w4 ⟨B2, rfl, HB2⟩
      go_wp2_with fail
      refine HB2.out.mono ?_
      rintro e w5 ⟨rfl, hb5⟩
      have HW5 := hide (HW3.out.trans (hb5.mono HW3.out.size))
      clear HB2 hb5 HW3
      go_wp2_with fail
      refine (say_none fn _ HZ.out).mono ?_
      rintro e w6 ⟨B3, rfl, HB3⟩
      go_wp2_with fail
      refine HB3.out.mono ?_
      rintro e w7 ⟨rfl, hb7⟩
      have HW7 := hide (HW5.out.trans (hb7.mono HW5.out.size))
      clear HB3 hb7 HW5
      go_wp2_with fail
      refine (say_none fn _ HZ.out).mono ?_
      rintro e w8 ⟨B4, rfl, HB4⟩
      go_wp2_with fail
      refine HB4.out.mono ?_
      rintro e w9 ⟨rfl, hb9⟩
      have HW9 := hide (HW7.out.trans (hb9.mono HW7.out.size))
      clear HB4 hb9 HW7
      have hT : fn ++ ⟨#[40]⟩ ++ ⟨#[41]⟩ = fn ++ ⟨#[40]⟩ ++ ByteArray.empty ++ ⟨#[41]⟩ := by rw [ByteArray.append_empty]
      have HT := hide hT
      have HY : Hid ((fn ++ ⟨#[40]⟩ ++ ⟨#[41]⟩).size ≤ maxLen) := by
        show (fn ++ ⟨#[40]⟩ ++ ⟨#[41]⟩).size ≤ maxLen
        rw [ByteArray.size_append, ByteArray.size_append]
        have h1 : (ByteArray.mk #[40]).size = 1 := rfl
        have h2 : (ByteArray.mk #[41]).size = 1 := rfl
        unfold maxLen; omega
      clear hT
      go_wp2_with fail
      refine (inner _ _ ByteArray.empty HT.out _ HY.out).mono ?_
      rintro e wx ⟨rfl, rfl⟩
      go_wp2_with fail
      refine (inner _ _ ByteArray.empty HT.out _ HY.out).mono ?_
      rintro e wx ⟨rfl, rfl⟩
      go_wp2_with fail
      refine (inner _ _ ByteArray.empty HT.out _ HY.out).mono ?_
      rintro e wx ⟨rfl, rfl⟩
      have hz0 : ByteArray.empty.size = 0 := rfl
      go_wp2_with fail
      all_goals
        go_ret
        refine ⟨?_, HW9.out⟩
        simp
end Go.Proofs.Qxb6615922a.Cs
