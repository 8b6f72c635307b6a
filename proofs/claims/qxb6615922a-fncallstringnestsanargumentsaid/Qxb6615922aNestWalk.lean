/-
  THE WALK of FnCallStringNestsAnArgument.
-/
import Derived.Test.Qxb6615922aCutWalk
namespace Go.Proofs.Qxb6615922a.Cs
open Go.RowKit

/-- ZZNewCallOfNames(g, names), then ZZNewCallOfOne(f, it), then both texts. -/
theorem nest_names (f g : ByteArray) (a : Option Addr) (n c : Nat) (ss : Nat → ByteArray) (w : World) (hn : n ≤ 4096)
    (hc : ∀ j, j < n → ∃ b off, b < w.heap.size ∧ a = some ⟨b, off, none⟩ ∧ w.cell? ⟨b, off + j, none⟩ = some (.string (ss j))) (hs : ∀ j, j < n → (ss j).size ≤ 1048576) (hz : f.size + g.size + tot16 ss n ≤ 1048576) :
    Calls Try.prog 10 #[.string g, .slice a n c] w fun e w2 => ∃ B T M, e = .returned (.pointer (some ⟨B, 0, none⟩)) ∧ T.size ≤ maxLen ∧ (T.size : Int) ≤ 1048578 ∧ Hid (T = g ++ ⟨#[40]⟩ ++ M ++ ⟨#[41]⟩) ∧ Hid (T.size = g.size + 2 + tot2 ss n + 2 * (n - 1)) ∧
      Hid (Calls Try.prog 14 #[.string f, .pointer (some ⟨B, 0, none⟩)] w2 fun e w3 => ∃ O, e = .returned (.pointer (some ⟨O, 0, none⟩)) ∧
        Hid (Calls Try.prog 11 #[.pointer (some ⟨B, 0, none⟩)] w3 fun e w4 => e = .returned (.string T) ∧
          Hid (Calls Try.prog 11 #[.pointer (some ⟨O, 0, none⟩)] w4 fun e w5 => e = .returned (.string (f ++ ⟨#[40]⟩ ++ T ++ ⟨#[41]⟩)) ∧ Below w.heap.size w w5))) := by
  refine (new_call g a n c ss w hn hc).mono ?_
  rintro e w2 ⟨B, rfl, hC, hb⟩
  have ht := tot2_le ss n
  have hsz : (text g (leaves ss n)).size = g.size + 2 + tot2 ss n + 2 * (n - 1) := by rw [size_text, size_mid_leaves]; omega
  have hS := call1_says hC hn hs (by omega)
  refine ⟨B, text g (leaves ss n), mid (leaves ss n), rfl, by rw [hsz]; unfold maxLen; omega, by rw [hsz]; omega, text_mid _ _, hsz, ?_⟩
  refine (call_of_one f ⟨B, 0, none⟩ w2).mono ?_
  rintro e w3 ⟨rfl, rfl⟩
  refine ⟨w2.heap.size + 1, rfl, ?_⟩
  have hb3 : Below w2.heap.size w2 ((w2.alloc (.cells #[.iface 27 (.pointer (some ⟨B, 0, none⟩))] 50)).alloc (.cells #[.string f, .slice (some ⟨w2.heap.size, 0, none⟩) 1 1, .string ⟨#[]⟩] 48)) :=
    ((Below.refl _ _).alloc (Nat.le_refl _) _).alloc (by simp) _
  have hz3 : ((w2.alloc (.cells #[.iface 27 (.pointer (some ⟨B, 0, none⟩))] 50)).alloc (.cells #[.string f, .slice (some ⟨w2.heap.size, 0, none⟩) 1 1, .string ⟨#[]⟩] 48)).heap.size = w2.heap.size + 2 := by simp
  have o1 : ((w2.alloc (.cells #[.iface 27 (.pointer (some ⟨B, 0, none⟩))] 50)).alloc (.cells #[.string f, .slice (some ⟨w2.heap.size, 0, none⟩) 1 1, .string ⟨#[]⟩] 48)).heap[w2.heap.size + 1]? = some (.cells #[.string f, .slice (some ⟨w2.heap.size, 0, none⟩) 1 1, .string ⟨#[]⟩] 48 (0, 0)) := by
    have := heap_new (w2.alloc (.cells #[.iface 27 (.pointer (some ⟨B, 0, none⟩))] 50)) (.cells #[.string f, .slice (some ⟨w2.heap.size, 0, none⟩) 1 1, .string ⟨#[]⟩] 48)
    rwa [World.size_alloc] at this
  have o2 : ((w2.alloc (.cells #[.iface 27 (.pointer (some ⟨B, 0, none⟩))] 50)).alloc (.cells #[.string f, .slice (some ⟨w2.heap.size, 0, none⟩) 1 1, .string ⟨#[]⟩] 48)).heap[w2.heap.size]? = some (.cells #[.iface 27 (.pointer (some ⟨B, 0, none⟩))] 50 (0, 0)) := by
    rw [Below.heap_alloc _ _ _ (by simp)]; exact heap_new _ _
  generalize ((w2.alloc (.cells #[.iface 27 (.pointer (some ⟨B, 0, none⟩))] 50)).alloc (.cells #[.string f, .slice (some ⟨w2.heap.size, 0, none⟩) 1 1, .string ⟨#[]⟩] 48)) = w3 at *
  have hO := one_says (w := w3) (N := w3.heap.size) (by omega) (by omega) (cell_at o1 0) (cell_at o1 1) (cell_at o2 0) (t := text g (leaves ss n))
    (fun w' hw' hN => hS w' (hb3.trans (hw'.mono (by omega))) (by omega)) (by rw [hsz]; omega)
  refine (hS w3 hb3 (by omega)).mono ?_
  rintro e w4 ⟨rfl, hb4⟩
  refine ⟨rfl, ?_⟩
  refine (hO w4 hb4 hb4.size).mono ?_
  rintro e w5 ⟨rfl, hb5⟩
  have q1 := hb.size
  have q2 := hb3.size
  have q3 := hb4.size
  exact ⟨rfl, hb.trans ((hb3.mono q1).trans ((hb4.mono (by omega)).trans (hb5.mono (by omega))))⟩

/-- The lengths of the first m names, 2 more each, have been added up. -/
def Counted2 (z0 : Nat) (ss : Nat → ByteArray) (m : Nat) (z : Int) : Prop := z = ((z0 + tot2 ss m : Nat) : Int)
theorem counted2_start (z0 : Nat) (ss : Nat → ByteArray) : Counted2 z0 ss 0 (z0 : Int) := rfl
theorem counted2_step {z0 : Nat} {ss : Nat → ByteArray} {m : Nat} {z : Int} (h : Counted2 z0 ss m z) : Counted2 z0 ss (m + 1) (z + ((ss m).size + 2)) := by
  unfold Counted2 at *
  rw [h]; simp only [tot2]; omega
theorem tot16_mono (ss : Nat → ByteArray) (m n : Nat) (h : m ≤ n) : tot16 ss m ≤ tot16 ss n := by
  obtain ⟨d, rfl⟩ : ∃ d, n = m + d := ⟨n - m, by omega⟩
  rw [tot16_add]; omega

set_option maxRecDepth 100000 in
set_option maxHeartbeats 1000000 in
theorem nest_some (f g : ByteArray) (a : Addr) (n c : Nat) (ss : Nat → ByteArray) (w : World) (hf : f.size ≤ maxLen) (hg : g.size ≤ maxLen) (hn : n ≤ maxLen)
    (hc : ∀ j, j < n → ∃ b off, b < w.heap.size ∧ a = ⟨b, off, none⟩ ∧ w.cell? ⟨b, off + j, none⟩ = some (.string (ss j))) (hs0 : ∀ j, j < n → (ss j).size ≤ maxLen) :
    Calls Try.prog 6 #[.string f, .string g, .slice (some a) n c] w fun e w' => e = .returned (.bool true) ∧ Below w.heap.size w w' := by
  have hb1 := hide (bytes2 f g (some a) n c ss w hf hg hn (fun j hj => by obtain ⟨b, off, _, h2, h3⟩ := hc j hj; exact ⟨b, off, by rw [h2], h3⟩) hs0)
  clear hs0
  have hcp : ∀ j, j < n → w.cell? (a.add j) = some (.string (ss j)) := fun j hj => by
    obtain ⟨b, off, _, rfl, h3⟩ := hc j hj
    unfold Addr.add
    split
    · rename_i h; subst h; simpa using h3
    · exact h3
  have hcopy := copy_names w a n c ss hcp
  unfold maxLen at hf hg hn
  go_enter Try.func6, Try.ntmps6
  go_wp2_with fail
  refine hb1.out.mono ?_
  rintro e w' ⟨r, rfl, rfl, hr⟩
  cases r with
  | false =>
    go_wp2_with fail
    go_ret
    exact ⟨rfl, Below.refl _ _⟩
  | true =>
    have hs := hr rfl
    clear hr
    by_cases g0 : 65536 < f.size
    · go_wp2_with fail
      go_ret
      exact ⟨rfl, Below.refl _ _⟩
    by_cases g1 : 65536 < g.size
    · go_wp2_with fail
      go_ret
      exact ⟨rfl, Below.refl _ _⟩
    by_cases g2 : 4096 < n
    · go_wp2_with fail
      go_ret
      exact ⟨rfl, Below.refl _ _⟩
    have hmk := make_strings n (by omega)
    have hne : ∀ W : World, (binOp .neq 25 (.slice (some a) n c) (.slice none 0 0)).run Try.prog W = .ok (.bool true) W := fun W => by kernel_rfl
    have HS := hide hs
    clear hcp hc hs hb1
    go_wp2_with fail
    clear hcopy hmk hne
    have hW : Below w'.heap.size w' (w'.alloc (.cells ((List.range n).map fun i => Value.string (ss i)).toArray 9)) := (Below.refl _ _).alloc (Nat.le_refl _) _
    have hR : w'.heap.size < (w'.alloc (.cells ((List.range n).map fun i => Value.string (ss i)).toArray 9)).heap.size := by simp
    have hcell : ∀ j, j < n → (w'.alloc (.cells ((List.range n).map fun i => Value.string (ss i)).toArray 9)).cell? ⟨w'.heap.size, j, none⟩ = some (.string (ss j)) := fun j hj => by
      rw [cell_at (heap_new _ _) j]; simp [hj]
    generalize w'.alloc (.cells ((List.range n).map fun i => Value.string (ss i)).toArray 9) = W1 at *
    go_loop [8, 9] (fun t i => ∃ (m : Nat) (z : Int), m ≤ n ∧ i = .int .i64 m ∧ t = .int .i64 z ∧ 0 ≤ z ∧ z ≤ 1048576 ∧ Hid (Counted (f.size + g.size) ss m z)) (fun _ i => n - (intOf i).toNat)
    case atStart => exact ⟨0, _, Nat.zero_le _, rfl, rfl, by omega, by omega, counted_start (f.size + g.size) ss⟩
    case round =>
      obtain ⟨m, z, hm, rfl, rfl, hz0, hz, HZ⟩ := hrel
      by_cases hlt : m < n
      · have q1 := hcell m hlt
        have q2 : ((ss m).size : Int) ≤ 1048576 := by have := HS.out m hlt; omega
        clear hcell
        go_wp2_with fail
        · go_ret
          exact ⟨rfl, hW⟩
        · go_round
          case rel => exact ⟨m + 1, z + ((ss m).size + 16), by omega, by go_num, by go_num, by omega, by omega, counted_step HZ.out⟩
          case measure => simp [intOf]; omega
      · have hmn : m = n := by omega
        subst hmn
        have HZ1 : Hid (f.size + g.size + tot16 ss m ≤ 1048576) := by have := HZ.out; unfold Counted at this; show f.size + g.size + tot16 ss m ≤ 1048576; omega
        have HC := hide hcell
        have HW := hide hW
        clear HZ hz hz0 hcell hW
        have hm0 : m ≤ 4096 := by omega
        go_wp2_with fail
        refine (nest_names f g _ m _ ss W1 hm0 (fun j hj => ⟨w'.heap.size, 0, hR, rfl, by rw [Nat.zero_add]; exact HC.out j hj⟩) HS.out HZ1.out).mono ?_
        rintro e w2 ⟨B, T, M, rfl, hT1, hT2, HT, HTs, H1⟩
        go_wp2_with fail
        refine H1.out.mono ?_
        rintro e w3 ⟨O, rfl, H2⟩
        clear H1
        go_wp2_with fail
        refine H2.out.mono ?_
        rintro e w4 ⟨rfl, H3⟩
        clear H2
        go_wp2_with fail
        refine H3.out.mono ?_
        rintro e w5 ⟨rfl, hb5⟩
        clear H3
        obtain ⟨hW5, hR5, hC5⟩ := later HW.out hR HC.out hb5
        have HC5 := hide hC5
        have HW5 := hide hW5
        clear hb5 hW5 hC5 HC HW hR
        go_wp2_with fail
        go_loop [14, 15] (fun t i => ∃ (k : Nat) (z : Int), k ≤ m ∧ i = .int .i64 k ∧ t = .int .i64 z ∧ 0 ≤ z ∧ z ≤ 1048578 ∧ Hid (Counted2 (g.size + 2) ss k z)) (fun _ i => m - (intOf i).toNat)
        case atStart => exact ⟨0, _, Nat.zero_le _, rfl, rfl, by omega, by omega, counted2_start (g.size + 2) ss⟩
        case round =>
          obtain ⟨k, z2, hk, rfl, rfl, hy0, hy, HY⟩ := hrel
          by_cases hlt2 : k < m
          · have q1 := HC5.out k hlt2
            have q2 : ((ss k).size : Int) ≤ 1048576 := by have := HS.out k hlt2; omega
            have q3 : z2 + ((ss k).size + 2) ≤ 1048578 := by
              have h1 := HY.out
              have h2 := tot2_le ss (k + 1)
              have h3 := tot16_mono ss (k + 1) m (by omega)
              have h4 := HZ1.out
              unfold Counted2 at h1
              simp only [tot2] at h2
              omega
            go_wp2_with fail
            go_round
            case rel => exact ⟨k + 1, z2 + ((ss k).size + 2), by omega, by go_num, by go_num, by omega, by omega, counted2_step HY.out⟩
            case measure => simp [intOf]; omega
          · have hkm : k = m := by omega
            subst hkm
            have hfs : (f.size : Int) ≤ 65536 := by omega
            by_cases h1 : 1 < k
            · have hq : ((T.size : Int) == z2 + 2 * ((k : Int) - 1)) = true := by
                have h2 := HY.out
                have h3 := HTs.out
                unfold Counted2 at h2
                rw [beq_iff_eq]
                omega
              go_wp2_with fail
              refine (inner T _ M HT.out _ hT1).mono ?_
              rintro e wx ⟨rfl, rfl⟩
              go_wp2_with fail
              go_ret
              exact ⟨rfl, HW5.out⟩
            · have hq : ((T.size : Int) == z2) = true := by
                have h2 := HY.out
                have h3 := HTs.out
                unfold Counted2 at h2
                rw [beq_iff_eq]
                omega
              go_wp2_with fail
              refine (inner T _ M HT.out _ hT1).mono ?_
              rintro e wx ⟨rfl, rfl⟩
              go_wp2_with fail
              go_ret
              exact ⟨rfl, HW5.out⟩
end Go.Proofs.Qxb6615922a.Cs
