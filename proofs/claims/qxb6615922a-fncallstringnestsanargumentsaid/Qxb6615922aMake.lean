/-
  THE WALKS for the two laws on Call.String: the guards on lengths; ZZNewCallOfNames; ZZNewCallOfOne.
-/
import Derived.Test.Qxb6615922aProg
import Derived.WalkKit
import Derived.WalkSpells
import Derived.WalkLawsBesides
import Derived.Deep.OwnRows
namespace Go.Proofs.Qxb6615922a.Cs
open Go.RowKit

/-- A bool is handed back; nothing has turned; where it is true no name is longer than 1048576 bytes. -/
def Answers (n : Nat) (ss : Nat → ByteArray) (w : World) (e : Ending) (w' : World) : Prop := ∃ r, e = .returned (.bool r) ∧ w' = w ∧ (r = true → ∀ j, j < n → (ss j).size ≤ 1048576)
theorem answers_no (n : Nat) (ss : Nat → ByteArray) (w : World) : Answers n ss w (.returned (.bool false)) w := ⟨false, rfl, rfl, fun h => by cases h⟩
theorem answers_yes {n : Nat} {ss : Nat → ByteArray} {w : World} (h : ∀ j, j < n → (ss j).size ≤ 1048576) : Answers n ss w (.returned (.bool true)) w := ⟨true, rfl, rfl, fun _ => h⟩
theorem upto_start (ss : Nat → ByteArray) : ∀ j, j < 0 → (ss j).size ≤ 1048576 := fun j hj => absurd hj (Nat.not_lt_zero j)
theorem upto_step {ss : Nat → ByteArray} {k : Nat} (h : ∀ j, j < k → (ss j).size ≤ 1048576) (hk : (ss k).size ≤ 1048576) : ∀ j, j < k + 1 → (ss j).size ≤ 1048576 := fun j hj => by
  by_cases e : j = k
  · subst e; exact hk
  · exact h j (by omega)

set_option maxHeartbeats 400000 in
/-- The guard of the first law: it answers, and nothing turns. -/
theorem bytes1 (fn : ByteArray) (a : Option Addr) (n c : Nat) (k : Int) (ss : Nat → ByteArray) (w : World) (hfn : fn.size ≤ maxLen) (hn : n ≤ maxLen)
    (hc : ∀ j, j < n → ∃ b off, a = some ⟨b, off, none⟩ ∧ w.cell? ⟨b, off + j, none⟩ = some (.string (ss j))) (hs : ∀ j, j < n → (ss j).size ≤ maxLen) :
    Calls Try.prog 9 #[.string fn, .slice a n c, .int .i64 k] w (Answers n ss w) := by
  unfold maxLen at *
  go_enter Try.func9, Try.ntmps9
  go_wp2
  · go_ret
    exact answers_no _ _ _
  · go_ret
    exact answers_no _ _ _
  · go_ret
    exact answers_no _ _ _
  go_loop [7, 8] (fun t i => ∃ (k : Nat) (z : Int), k ≤ n ∧ i = .int .i64 k ∧ t = .int .i64 z ∧ 0 ≤ z ∧ z ≤ 1048576 ∧ Hid (∀ j, j < k → (ss j).size ≤ 1048576)) (fun _ i => n - (intOf i).toNat)
  case atStart => exact ⟨0, _, Nat.zero_le _, rfl, rfl, by omega, by omega, upto_start ss⟩
  case round =>
    obtain ⟨k, z, hk, rfl, rfl, hz0, hz1, HU⟩ := hrel
    by_cases hlt : k < n
    · obtain ⟨b, off, ha, g1⟩ := hc k hlt
      have g2 := hs k hlt
      subst ha
      go_wp2
      · go_ret
        exact answers_no _ _ _
      · go_ret
        exact answers_no _ _ _
      · go_round
        case rel => exact ⟨k + 1, _, by omega, by go_num, rfl, by omega, by omega, upto_step HU.out (by omega)⟩
        case measure => simp [intOf]; omega
    · have hkn : k = n := by omega
      subst hkn
      go_wp2
      go_ret
      exact answers_yes HU.out

set_option maxHeartbeats 400000 in
/-- The guard of the second law. -/
theorem bytes2 (f g : ByteArray) (a : Option Addr) (n c : Nat) (ss : Nat → ByteArray) (w : World) (hf : f.size ≤ maxLen) (hg : g.size ≤ maxLen) (hn : n ≤ maxLen)
    (hc : ∀ j, j < n → ∃ b off, a = some ⟨b, off, none⟩ ∧ w.cell? ⟨b, off + j, none⟩ = some (.string (ss j))) (hs : ∀ j, j < n → (ss j).size ≤ maxLen) :
    Calls Try.prog 13 #[.string f, .string g, .slice a n c] w (Answers n ss w) := by
  unfold maxLen at *
  go_enter Try.func13, Try.ntmps13
  go_wp2
  · go_ret
    exact answers_no _ _ _
  · go_ret
    exact answers_no _ _ _
  · go_ret
    exact answers_no _ _ _
  · go_ret
    exact answers_no _ _ _
  · go_ret
    exact answers_no _ _ _
  go_loop [7, 8] (fun t i => ∃ (k : Nat) (z : Int), k ≤ n ∧ i = .int .i64 k ∧ t = .int .i64 z ∧ 0 ≤ z ∧ z ≤ 1048576 ∧ Hid (∀ j, j < k → (ss j).size ≤ 1048576)) (fun _ i => n - (intOf i).toNat)
  case atStart => exact ⟨0, _, Nat.zero_le _, rfl, rfl, by omega, by omega, upto_start ss⟩
  case round =>
    obtain ⟨k, z, hk, rfl, rfl, hz0, hz1, HU⟩ := hrel
    by_cases hlt : k < n
    · obtain ⟨b, off, ha, g1⟩ := hc k hlt
      have g2 := hs k hlt
      subst ha
      go_wp2
      · go_ret
        exact answers_no _ _ _
      · go_ret
        exact answers_no _ _ _
      · go_round
        case rel => exact ⟨k + 1, _, by omega, by go_num, rfl, by omega, by omega, upto_step HU.out (by omega)⟩
        case measure => simp [intOf]; omega
    · have hkn : k = n := by omega
      subst hkn
      go_wp2
      go_ret
      exact answers_yes HU.out

theorem make_strings (n : Nat) (h : n ≤ 1048576) (w : World) :
    (Instr.makeSlice 25 (.int .i64 (n : Int)) (.int .i64 (n : Int))).run Try.prog w = .ok (.slice (some ⟨w.heap.size, 0, none⟩) n n) (w.alloc (.cells (madeCells #[.string ⟨#[]⟩] n) 9)) :=
  run_make_row' 25 9 (.string ⟨#[]⟩) 16 Try.underlying25 (by kernel_rfl) rfl .i64 .i64 n (by omega) (by omega) w
theorem make_exprs (n : Nat) (h : n ≤ 1048576) (w : World) :
    (Instr.makeSlice 46 (.int .i64 (n : Int)) (.int .i64 (n : Int))).run Try.prog w = .ok (.slice (some ⟨w.heap.size, 0, none⟩) n n) (w.alloc (.cells (madeCells #[.nilIface] n) 50)) :=
  run_make_row' 46 50 .nilIface 16 Try.underlying46 (by kernel_rfl) rfl .i64 .i64 n (by omega) (by omega) w

/-- A call without arguments, named s. -/
def Leaf (w : World) (D : Nat) (s : ByteArray) : Prop := w.heap[D]? = some (.cells #[.string s, .slice none 0 0, .string ⟨#[]⟩] 48 (0, 0))

theorem cell_at {w : World} {B : Nat} {c : Array Value} {t : TypeId} (h : w.heap[B]? = some (.cells c t (0, 0))) (i : Nat) : w.cell? ⟨B, i, none⟩ = c[i]? := by
  unfold World.cell?
  simp [h]
theorem heap_new (w : World) (o : Obj) : (w.alloc o).heap[w.heap.size]? = some o := (MapKept.heap_alloc w _).1

/-- After k rounds: the row of arguments at C = w.heap.size; the first k are calls without arguments. -/
def Grew (w : World) (n : Nat) (ss : Nat → ByteArray) (k : Nat) (wr : World) : Prop :=
  Below w.heap.size w wr ∧ w.heap.size < wr.heap.size ∧ ∃ arr : Array Value, arr.size = n ∧ wr.heap[w.heap.size]? = some (.cells arr 50 (0, 0)) ∧
    ∀ i, i < k → ∃ D, w.heap.size < D ∧ D < wr.heap.size ∧ arr[i]? = some (.iface 27 (.pointer (some ⟨D, 0, none⟩))) ∧ Leaf wr D (ss i)

theorem grew_start (w : World) (n : Nat) (ss : Nat → ByteArray) : Grew w n ss 0 (w.alloc (.cells (madeCells #[.nilIface] n) 50)) :=
  ⟨(Below.refl _ _).alloc (Nat.le_refl _) _, by simp, _, size_madeCells _ _, heap_new _ _, fun i hi => absurd hi (Nat.not_lt_zero _)⟩

theorem grew_step {w wr : World} {n k : Nat} {ss : Nat → ByteArray} (h : Grew w n ss k wr) (hk : k < n) :
    Grew w n ss (k + 1) ((wr.setCell ⟨w.heap.size, k, none⟩ (.iface 27 (.pointer (some ⟨wr.heap.size, 0, none⟩)))).alloc (.cells #[.string (ss k), .slice none 0 0, .string ⟨#[]⟩] 48)) := by
  obtain ⟨h1, h2, arr, h3, h4, h5⟩ := h
  have hz : (wr.setCell ⟨w.heap.size, k, none⟩ (.iface 27 (.pointer (some ⟨wr.heap.size, 0, none⟩)))).heap.size = wr.heap.size := by simp [World.setCell]
  refine ⟨(h1.setCell (Nat.le_refl _) _).alloc (by rw [hz]; omega) _, by rw [World.size_alloc, hz]; omega, arr.setIfInBounds k (.iface 27 (.pointer (some ⟨wr.heap.size, 0, none⟩))), by simpa using h3, ?_, ?_⟩
  · rw [Below.heap_alloc _ _ _ (by rw [hz]; exact h2)]
    exact heap_setCell_same _ _ _ _ _ _ h4
  · intro i hi
    by_cases he : i = k
    · subst he
      refine ⟨wr.heap.size, h2, by rw [World.size_alloc, hz]; omega, by simp [h3, hk], ?_⟩
      unfold Leaf
      have := heap_new (wr.setCell ⟨w.heap.size, i, none⟩ (.iface 27 (.pointer (some ⟨wr.heap.size, 0, none⟩)))) (.cells #[.string (ss i), .slice none 0 0, .string ⟨#[]⟩] 48)
      rw [hz] at this
      exact this
    · obtain ⟨D, d1, d2, d3, d4⟩ := h5 i (by omega)
      refine ⟨D, d1, by rw [World.size_alloc, hz]; omega, ?_, ?_⟩
      · rw [Array.getElem?_setIfInBounds, if_neg (fun h => he h.symm)]; exact d3
      · unfold Leaf
        rw [Below.heap_alloc _ _ _ (by rw [hz]; exact d2), heap_setCell_other _ _ _ _ (by simp; omega)]
        exact d4

/-- A call named fn whose arguments are calls without arguments, named ss 0 .. ss (n - 1): at B; nothing of it below base. -/
def Call1 (w : World) (base B : Nat) (fn : ByteArray) (n : Nat) (ss : Nat → ByteArray) : Prop :=
  ∃ C arr, base ≤ B ∧ base ≤ C ∧ B < w.heap.size ∧ C < w.heap.size ∧ w.heap[B]? = some (.cells #[.string fn, .slice (some ⟨C, 0, none⟩) n n, .string ⟨#[]⟩] 48 (0, 0)) ∧ arr.size = n ∧ w.heap[C]? = some (.cells arr 50 (0, 0)) ∧
    ∀ i, i < n → ∃ D, base ≤ D ∧ D < w.heap.size ∧ arr[i]? = some (.iface 27 (.pointer (some ⟨D, 0, none⟩))) ∧ Leaf w D (ss i)

theorem grew_end {w wr : World} {n : Nat} {ss : Nat → ByteArray} (h : Grew w n ss n wr) (fn : ByteArray) :
    Call1 (wr.alloc (.cells #[.string fn, .slice (some ⟨w.heap.size, 0, none⟩) n n, .string ⟨#[]⟩] 48)) w.heap.size wr.heap.size fn n ss := by
  obtain ⟨h1, h2, arr, h3, h4, h5⟩ := h
  refine ⟨w.heap.size, arr, by omega, Nat.le_refl _, by simp, by simp; omega, heap_new _ _, h3, ?_, ?_⟩
  · rw [Below.heap_alloc _ _ _ h2]; exact h4
  · intro i hi
    obtain ⟨D, d1, d2, d3, d4⟩ := h5 i hi
    refine ⟨D, by omega, by simp; omega, d3, ?_⟩
    unfold Leaf
    rw [Below.heap_alloc _ _ _ d2]; exact d4

set_option maxHeartbeats 400000 in
theorem new_call (fn : ByteArray) (a : Option Addr) (n c : Nat) (ss : Nat → ByteArray) (w : World) (hn : n ≤ 4096)
    (hc : ∀ j, j < n → ∃ b off, b < w.heap.size ∧ a = some ⟨b, off, none⟩ ∧ w.cell? ⟨b, off + j, none⟩ = some (.string (ss j))) :
    Calls Try.prog 10 #[.string fn, .slice a n c] w fun e w' => ∃ B, e = .returned (.pointer (some ⟨B, 0, none⟩)) ∧ Call1 w' w.heap.size B fn n ss ∧ Below w.heap.size w w' := by
  have hmk := make_exprs n (by omega)
  go_enter Try.func10, Try.ntmps10
  go_wp2
  go_loopw [13] (fun i wr => ∃ k : Nat, k ≤ n ∧ i = .int .i64 k ∧ Grew w n ss k wr) (fun i _ => n - (intOf i).toNat)
  case atStart => exact ⟨0, Nat.zero_le _, rfl, grew_start w n ss⟩
  case round =>
    obtain ⟨k, hk, rfl, hg⟩ := hrel
    have HG : Hid (Grew w n ss k wr) := hg
    by_cases hlt : k < n
    · obtain ⟨b, off, hb, ha, g1⟩ := hc k hlt
      subst ha
      obtain ⟨h1, h2, arr, h3, h4, h5⟩ := hg
      have g2 : wr.cell? ⟨b, off + k, none⟩ = some (.string (ss k)) := (h1.cell (p := ⟨b, off + k, none⟩) hb).trans g1
      obtain ⟨old, g3⟩ : ∃ v, wr.cell? ⟨w.heap.size, k, none⟩ = some v := ⟨arr[k], by rw [cell_at h4 k]; simp⟩
      have g4 : wr.frozen? ⟨w.heap.size, k, none⟩ = false := frozen_of_row _ _ _ _ _ h4
      clear h1 h3 h4 h5 g1
      go_wp2
      go_roundw
      case rel => exact ⟨k + 1, by omega, by go_num, grew_step HG.out hlt⟩
      case measure => simp [intOf]; omega
    · have hkn : k = n := by omega
      subst hkn
      clear hg
      go_wp2
      go_ret
      exact ⟨_, rfl, grew_end HG.out fn, (HG.out.1).alloc (by have := HG.out.2.1; omega) _⟩
end Go.Proofs.Qxb6615922a.Cs
