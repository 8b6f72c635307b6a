/-
  THE WALK of FnCallStringSplitsAtAnyCut.
-/
import Derived.Test.Qxb6615922aText
import Derived.Test.Qxb6615922aInner
namespace Go.Proofs.Qxb6615922a.Cs
open Go.RowKit

/-- The lengths of the first m names, 16 more each, have been added up. -/
def Counted (z0 : Nat) (ss : Nat → ByteArray) (m : Nat) (z : Int) : Prop := z = ((z0 + tot16 ss m : Nat) : Int)
theorem counted_start (z0 : Nat) (ss : Nat → ByteArray) : Counted z0 ss 0 (z0 : Int) := rfl
theorem counted_step {z0 : Nat} {ss : Nat → ByteArray} {m : Nat} {z : Int} (h : Counted z0 ss m z) : Counted z0 ss (m + 1) (z + ((ss m).size + 16)) := by
  unfold Counted at *
  rw [h]; simp only [tot16]; omega

/-- ZZNewCallOfNames(fn, names), and then its String(). -/
theorem say_names (fn : ByteArray) (a : Option Addr) (n c : Nat) (ss : Nat → ByteArray) (w : World) (hn : n ≤ 4096)
    (hc : ∀ j, j < n → ∃ b off, b < w.heap.size ∧ a = some ⟨b, off, none⟩ ∧ w.cell? ⟨b, off + j, none⟩ = some (.string (ss j))) (hs : ∀ j, j < n → (ss j).size ≤ 1048576) (hz : fn.size + tot16 ss n ≤ 1048576) :
    Calls Try.prog 10 #[.string fn, .slice a n c] w fun e w' => ∃ B T M, e = .returned (.pointer (some ⟨B, 0, none⟩)) ∧ T.size ≤ maxLen ∧ (M.size : Int) ≤ 1048576 ∧ Hid (T = fn ++ ⟨#[40]⟩ ++ M ++ ⟨#[41]⟩) ∧ Hid (M = mid (leaves ss n)) ∧
      Hid (Calls Try.prog 11 #[.pointer (some ⟨B, 0, none⟩)] w' fun e2 w'' => e2 = .returned (.string T) ∧ Below w.heap.size w w'') := by
  refine (new_call fn a n c ss w hn hc).mono ?_
  rintro e w' ⟨B, rfl, hC, hb⟩
  refine ⟨B, text fn (leaves ss n), mid (leaves ss n), rfl, ?_, ?_, text_mid _ _, rfl, ?_⟩
  · rw [size_text, size_mid_leaves]; have := tot2_le ss n; unfold maxLen; omega
  · rw [size_mid_leaves]; have := tot2_le ss n; omega
  refine (call1_says hC hn hs hz w' (Below.refl _ _) (Nat.le_refl _)).mono ?_
  rintro e w'' ⟨rfl, hb2⟩
  exact ⟨rfl, hb.trans (hb2.mono hb.size)⟩
theorem say_none (fn : ByteArray) (w : World) (hz : fn.size ≤ 1048576) :
    Calls Try.prog 10 #[.string fn, .slice none 0 0] w fun e w' => ∃ B, e = .returned (.pointer (some ⟨B, 0, none⟩)) ∧
      Hid (Calls Try.prog 11 #[.pointer (some ⟨B, 0, none⟩)] w' fun e2 w'' => e2 = .returned (.string (fn ++ ⟨#[40]⟩ ++ ⟨#[41]⟩)) ∧ Below w.heap.size w w'') := by
  refine (say_names fn none 0 0 (fun _ => fn) w (by omega) (fun j hj => absurd hj (Nat.not_lt_zero j)) (fun j hj => absurd hj (Nat.not_lt_zero j)) (by simp only [tot16]; omega)).mono ?_
  rintro e w' ⟨B, T, M, rfl, _, _, hT, hM, hC⟩
  have hT' : T = fn ++ ⟨#[40]⟩ ++ ⟨#[41]⟩ := by rw [hT.out, hM.out]; exact text_nil fn
  subst hT'
  exact ⟨B, rfl, hC⟩

theorem later {w w1 w2 : World} {R n : Nat} {ss : Nat → ByteArray} (hW : Below w.heap.size w w1) (hR : R < w1.heap.size) (hc : ∀ j, j < n → w1.cell? ⟨R, j, none⟩ = some (.string (ss j))) (hb : Below w1.heap.size w1 w2) :
    Below w.heap.size w w2 ∧ R < w2.heap.size ∧ ∀ j, j < n → w2.cell? ⟨R, j, none⟩ = some (.string (ss j)) :=
  ⟨hW.trans (hb.mono hW.size), Nat.lt_of_lt_of_le hR hb.size, fun j hj => (hb.cell (p := ⟨R, j, none⟩) hR).trans (hc j hj)⟩

theorem tot16_add (ss : Nat → ByteArray) (k d : Nat) : tot16 ss (k + d) = tot16 ss k + tot16 (fun j => ss (k + j)) d := by
  induction d with
  | zero => rfl
  | succ d ih =>
    show tot16 ss (k + d) + ((ss (k + d)).size + 16) = tot16 ss k + (tot16 (fun j => ss (k + j)) d + ((ss (k + d)).size + 16))
    omega

theorem mid_low (ss : Nat → ByteArray) (n : Nat) : mid (leaves ss n) = mid (leaves ss 0) ++ ⟨#[]⟩ ++ mid (leaves ss n) := by
  rw [mid_none]
  apply ByteArray.ext
  simp [ByteArray.data_append]
theorem mid_high (ss ss' : Nat → ByteArray) (n : Nat) : mid (leaves ss n) = mid (leaves ss n) ++ ⟨#[]⟩ ++ mid (leaves ss' 0) := by
  rw [mid_none]
  apply ByteArray.ext
  simp [ByteArray.data_append]

set_option maxRecDepth 100000 in
set_option maxHeartbeats 1000000 in
theorem cut_some (fn : ByteArray) (a : Addr) (n c : Nat) (k : Int) (ss : Nat → ByteArray) (w : World) (hfn : fn.size ≤ maxLen) (hn : n ≤ maxLen)
    (hc : ∀ j, j < n → ∃ b off, b < w.heap.size ∧ a = ⟨b, off, none⟩ ∧ w.cell? ⟨b, off + j, none⟩ = some (.string (ss j))) (hs0 : ∀ j, j < n → (ss j).size ≤ maxLen) :
    Calls Try.prog 5 #[.string fn, .slice (some a) n c, .int .i64 k] w fun e w' => e = .returned (.bool true) ∧ Below w.heap.size w w' := by
  have hb1 := hide (bytes1 fn (some a) n c k ss w hfn hn (fun j hj => by obtain ⟨b, off, _, h2, h3⟩ := hc j hj; exact ⟨b, off, by rw [h2], h3⟩) hs0)
  clear hs0
  have hcp : ∀ j, j < n → w.cell? (a.add j) = some (.string (ss j)) := fun j hj => by
    obtain ⟨b, off, _, rfl, h3⟩ := hc j hj
    unfold Addr.add
    split
    · rename_i h; subst h; simpa using h3
    · exact h3
  have hcopy := copy_names w a n c ss hcp
  unfold maxLen at hfn hn
  go_enter Try.func5, Try.ntmps5
  go_wp2_with fail
  refine hb1.out.mono ?_
  rintro e w' ⟨r, rfl, rfl, hr⟩
  cases r with
  | false =>
    go_wp2_with fail
    go_ret
    exact ⟨rfl, Below.refl _ _⟩
  | true =>
    have hs := hr rfl
    clear hr
    by_cases g1 : 65536 < fn.size
    · go_wp2_with fail
      go_ret
      exact ⟨rfl, Below.refl _ _⟩
    by_cases g2 : 4096 < n
    · go_wp2_with fail
      go_ret
      exact ⟨rfl, Below.refl _ _⟩
    have hmk := make_strings n (by omega)
    have hne : ∀ W : World, (binOp .neq 25 (.slice (some a) n c) (.slice none 0 0)).run Try.prog W = .ok (.bool true) W := fun W => by kernel_rfl
    have HS := hide hs
    clear hcp hc hs hb1
    go_wp2_with fail
    clear hcopy hmk hne
    have hW : Below w'.heap.size w' (w'.alloc (.cells ((List.range n).map fun i => Value.string (ss i)).toArray 9)) := (Below.refl _ _).alloc (Nat.le_refl _) _
    have hR : w'.heap.size < (w'.alloc (.cells ((List.range n).map fun i => Value.string (ss i)).toArray 9)).heap.size := by simp
    have hcell : ∀ j, j < n → (w'.alloc (.cells ((List.range n).map fun i => Value.string (ss i)).toArray 9)).cell? ⟨w'.heap.size, j, none⟩ = some (.string (ss j)) := fun j hj => by
      rw [cell_at (heap_new _ _) j]; simp [hj]
    generalize w'.alloc (.cells ((List.range n).map fun i => Value.string (ss i)).toArray 9) = W1 at *
    go_loop [8, 9] (fun t i => ∃ (m : Nat) (z : Int), m ≤ n ∧ i = .int .i64 m ∧ t = .int .i64 z ∧ 0 ≤ z ∧ z ≤ 1048576 ∧ Hid (Counted fn.size ss m z)) (fun _ i => n - (intOf i).toNat)
    case atStart => exact ⟨0, fn.size, Nat.zero_le _, rfl, rfl, by omega, by omega, counted_start _ _⟩
    case round =>
      obtain ⟨m, z, hm, rfl, rfl, hz0, hz, HZ⟩ := hrel
      by_cases hlt : m < n
      · have q1 := hcell m hlt
        have q2 : ((ss m).size : Int) ≤ 1048576 := by have := HS.out m hlt; omega
        clear hcell
        go_wp2_with fail
        · go_ret
          exact ⟨rfl, hW⟩
        · go_round
          case rel => exact ⟨m + 1, z + ((ss m).size + 16), by omega, by go_num, by go_num, by omega, by omega, counted_step HZ.out⟩
          case measure => simp [intOf]; omega
      · have hmn : m = n := by omega
        subst hmn
        by_cases k1 : k < 0
        · go_wp2_with fail
          go_ret
          exact ⟨rfl, hW⟩
        by_cases k2 : (m : Int) < k
        · go_wp2_with fail
          go_ret
          exact ⟨rfl, hW⟩
        obtain ⟨kk, rfl⟩ := Int.eq_ofNat_of_zero_le (show 0 ≤ k by omega)
        have hZ : fn.size + tot16 ss m ≤ 1048576 := by have := HZ.out; unfold Counted at this; omega
        have HZ1 := hide hZ
        have hkm : kk ≤ m := by omega
        have HZ2 : Hid (fn.size + tot16 ss kk ≤ 1048576 ∧ fn.size + tot16 (fun j => ss (kk + j)) (m - kk) ≤ 1048576) := by
          have h1 := tot16_add ss kk (m - kk)
          have h2 : kk + (m - kk) = m := by omega
          rw [h2] at h1
          exact ⟨by omega, by omega⟩
        have HC := hide hcell
        have HW := hide hW
        clear hZ HZ hz hz0 hcell hW
        have hm0 : m ≤ 4096 := by omega
        go_wp2_with fail
        refine (say_names fn _ m _ ss W1 hm0 (fun j hj => ⟨w'.heap.size, 0, hR, rfl, by rw [Nat.zero_add]; exact HC.out j hj⟩) HS.out HZ1.out).mono ?_
        rintro e w2 ⟨B1, T1, M1, rfl, hz1, hy1, HT1, HM1, HB1⟩
        go_wp2_with fail
        refine HB1.out.mono ?_
        rintro e w3 ⟨rfl, hb3⟩
        obtain ⟨hW3, hR3, hC3⟩ := later HW.out hR HC.out hb3
        have HC3 := hide hC3
        have HW3 := hide hW3
        clear HB1 hb3 hW3 hC3 HC HW hR
        go_wp2_with fail
        refine (say_names fn _ kk _ ss w3 (by omega) (fun j hj => ⟨w'.heap.size, 0, hR3, rfl, by rw [Nat.zero_add]; exact HC3.out j (by omega)⟩) (fun j hj => HS.out j (by omega)) HZ2.out.1).mono ?_
        rintro e w4 ⟨B2, T2, M2, rfl, hz2, hy2, HT2, HM2, HB2⟩
        go_wp2_with fail
        refine HB2.out.mono ?_
        rintro e w5 ⟨rfl, hb5⟩
        obtain ⟨hW5, hR5, hC5⟩ := later HW3.out hR3 HC3.out hb5
        have HC5 := hide hC5
        have HW5 := hide hW5
        clear HB2 hb5 hW5 hC5 HC3 HW3 hR3
        have hcase : (0 < kk ∧ kk < m) ∨ (kk = 0 ∧ kk < m) ∨ kk = m := by omega
        rcases hcase with ⟨q0, q1⟩ | ⟨q0, q1⟩ | q0
        · go_wp2_with fail
          refine (say_names fn _ (m - kk) _ (fun j => ss (kk + j)) w5 (by omega) (fun j hj => ⟨w'.heap.size, kk, hR5, rfl, HC5.out (kk + j) (by omega)⟩) (fun j hj => HS.out (kk + j) (by omega)) HZ2.out.2).mono ?_
          rintro e w6 ⟨B3, T3, M3, rfl, hz3, hy3, HT3, HM3, HB3⟩
          have HM : Hid (M1 = M2 ++ ⟨#[44, 32]⟩ ++ M3) := by rw [HM1.out, HM2.out, HM3.out]; exact mid_both ss m kk q0 q1
          go_wp2_with fail
          refine HB3.out.mono ?_
          rintro e w7 ⟨rfl, hb7⟩
          have HW7 := hide (HW5.out.trans (hb7.mono HW5.out.size))
          clear HB3 hb7 HC5 HW5 hR5 HM1 HM2 HM3
          go_wp2_with fail
          refine (say_none fn w7 (by omega)).mono ?_
          rintro e w8 ⟨B4, rfl, HB4⟩
          go_wp2_with fail
          refine HB4.out.mono ?_
          rintro e w9 ⟨rfl, hb9⟩
          have HW9 := hide (HW7.out.trans (hb9.mono HW7.out.size))
          clear HB4 hb9 HW7
          go_wp2_with fail
          refine (inner T1 _ M1 HT1.out _ hz1).mono ?_
          rintro e wx ⟨rfl, rfl⟩
          go_wp2_with fail
          refine (inner T2 _ M2 HT2.out _ hz2).mono ?_
          rintro e wx ⟨rfl, rfl⟩
          go_wp2_with fail
          refine (inner T3 _ M3 HT3.out _ hz3).mono ?_
          rintro e wx ⟨rfl, rfl⟩
          go_wp2_with fail
          all_goals
            go_ret
            refine ⟨?_, HW9.out⟩
            rw [HM.out]
            simp
        · subst q0
          go_wp2_with fail
          refine (say_names fn _ m _ ss w5 (by omega) (fun j hj => ⟨w'.heap.size, 0, hR5, rfl, by rw [Nat.zero_add]; exact HC5.out j hj⟩) HS.out HZ1.out).mono ?_
          rintro e w6 ⟨B3, T3, M3, rfl, hz3, hy3, HT3, HM3, HB3⟩
          have HM : Hid (M1 = M2 ++ ⟨#[]⟩ ++ M3) := by rw [HM1.out, HM2.out, HM3.out]; exact mid_low ss m
          go_wp2_with fail
          refine HB3.out.mono ?_
          rintro e w7 ⟨rfl, hb7⟩
          have HW7 := hide (HW5.out.trans (hb7.mono HW5.out.size))
          clear HB3 hb7 HC5 HW5 hR5 HM1 HM2 HM3
          go_wp2_with fail
          refine (say_none fn w7 (by omega)).mono ?_
          rintro e w8 ⟨B4, rfl, HB4⟩
          go_wp2_with fail
          refine HB4.out.mono ?_
          rintro e w9 ⟨rfl, hb9⟩
          have HW9 := hide (HW7.out.trans (hb9.mono HW7.out.size))
          clear HB4 hb9 HW7
          go_wp2_with fail
          refine (inner T1 _ M1 HT1.out _ hz1).mono ?_
          rintro e wx ⟨rfl, rfl⟩
          go_wp2_with fail
          refine (inner T2 _ M2 HT2.out _ hz2).mono ?_
          rintro e wx ⟨rfl, rfl⟩
          go_wp2_with fail
          refine (inner T3 _ M3 HT3.out _ hz3).mono ?_
          rintro e wx ⟨rfl, rfl⟩
          go_wp2_with fail
          all_goals
            go_ret
            refine ⟨?_, HW9.out⟩
            rw [HM.out]
            simp
        · subst q0
          go_wp2_with fail
          refine (say_names fn _ 0 _ ss w5 (by omega) (fun j hj => absurd hj (Nat.not_lt_zero j)) (fun j hj => absurd hj (Nat.not_lt_zero j)) (by simp only [tot16]; omega)).mono ?_
          rintro e w6 ⟨B3, T3, M3, rfl, hz3, hy3, HT3, HM3, HB3⟩
          have HM : Hid (M1 = M2 ++ ⟨#[]⟩ ++ M3) := by rw [HM1.out, HM2.out, HM3.out]; exact mid_high ss ss kk
          go_wp2_with fail
          refine HB3.out.mono ?_
          rintro e w7 ⟨rfl, hb7⟩
          have HW7 := hide (HW5.out.trans (hb7.mono HW5.out.size))
          clear HB3 hb7 HC5 HW5 hR5 HM1 HM2 HM3
          go_wp2_with fail
          refine (say_none fn w7 (by omega)).mono ?_
          rintro e w8 ⟨B4, rfl, HB4⟩
          go_wp2_with fail
          refine HB4.out.mono ?_
          rintro e w9 ⟨rfl, hb9⟩
          have HW9 := hide (HW7.out.trans (hb9.mono HW7.out.size))
          clear HB4 hb9 HW7
          go_wp2_with fail
          refine (inner T1 _ M1 HT1.out _ hz1).mono ?_
          rintro e wx ⟨rfl, rfl⟩
          go_wp2_with fail
          refine (inner T2 _ M2 HT2.out _ hz2).mono ?_
          rintro e wx ⟨rfl, rfl⟩
          go_wp2_with fail
          refine (inner T3 _ M3 HT3.out _ hz3).mono ?_
          rintro e wx ⟨rfl, rfl⟩
          go_wp2_with fail
          all_goals
            go_ret
            refine ⟨?_, HW9.out⟩
            rw [HM.out]
            simp
end Go.Proofs.Qxb6615922a.Cs
