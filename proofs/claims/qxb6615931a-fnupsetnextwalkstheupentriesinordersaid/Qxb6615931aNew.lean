/-
  THE WALK of ZZnewUpSet.
-/
import Derived.Test.Qxb6615931aLoad
import Derived.Deep.OwnRows
import Derived.Deep.RegionWith
namespace Go.Proofs.Qxb6615931a.Us
open Go.RowKit

theorem cell_at {w : World} {B : Nat} {c : Array Value} {t : TypeId} (h : w.heap[B]? = some (.cells c t (0, 0))) (i : Nat) : w.cell? ⟨B, i, none⟩ = c[i]? := by
  unfold World.cell?
  simp [h]
theorem heap_new (w : World) (o : Obj) : (w.alloc o).heap[w.heap.size]? = some o := (MapKept.heap_alloc w _).1

/-- 'make([]T, n)' whatever the zero value's cells. -/
theorem run_make_cells {P : Program} (t e : TypeId) (z : Value) (bytes : Nat) (ht : P.underlying t = some (.slice e)) (hinfo : (P.info? e).map (fun i => (i.zero, i.size, i.bytes)) = some (some z, 1, bytes))
    (l : Int) (n : Nat) (hl : l = n) (hb : bytes * n ≤ 281474976710656) (hn : n ≤ 9223372036854775807) (w : World) :
    (Instr.makeSlice t (.int .i64 l) (.int .i64 l)).run P w = .ok (.slice (some ⟨w.heap.size, 0, none⟩) n n) (w.alloc (.cells (madeCells z.cells n) e)) := by
  obtain ⟨i, hi, hzz⟩ := Option.map_eq_some_iff.1 hinfo
  simp only [Prod.mk.injEq] at hzz
  obtain ⟨hz, hs, hy⟩ := hzz
  subst hl
  have hb' : (i.bytes : Int) * (n : Int) ≤ 281474976710656 := by rw [hy, ← Int.natCast_mul]; omega
  have := run_make (P := P) w t e i z ht hi hz .i64 .i64 n n (by omega) (Int.le_refl _) hb' (by omega)
  rw [Int.toNat_natCast, hs, Nat.mul_one] at this
  exact this

theorem make_atoms (n : Nat) (h : n ≤ 65537) (w : World) :
    (Instr.makeSlice 36 (.int .i64 (n : Int)) (.int .i64 (n : Int))).run Try.prog w = .ok (.slice (some ⟨w.heap.size, 0, none⟩) n n) (w.alloc (.cells (madeCells #[.int .i64 0] n) 41)) :=
  run_make_cells 36 41 (.agg #[.int .i64 0]) 8 Try.underlying36 (by kernel_rfl) n n rfl (by omega) (by omega) w
theorem make_uatoms (n : Nat) (h : n ≤ 65537) (w : World) :
    (Instr.makeSlice 42 (.int .i64 (n : Int)) (.int .i64 (n : Int))).run Try.prog w = .ok (.slice (some ⟨w.heap.size, 0, none⟩) n n) (w.alloc (.cells (madeCells #[.int .u64 0] n) 50)) :=
  run_make_cells 42 50 (.agg #[.int .u64 0]) 8 Try.underlying42 (by kernel_rfl) n n rfl (by omega) (by omega) w

/-- The first k nodes have been stored: the set at w.heap.size, its tree behind it. -/
def Cp (w : World) (bx : Array Value) (tv : Nat → Int) (n k : Nat) (wr : World) : Prop :=
  Below w.heap.size w wr ∧ wr.heap.size = w.heap.size + 2 ∧ wr.heap[w.heap.size]? = some (.cells bx 52 (0, 0)) ∧
    ∃ arr : Array Value, arr.size = n ∧ wr.heap[w.heap.size + 1]? = some (.cells arr 41 (0, 0)) ∧ ∀ j, j < k → arr[j]? = some (.int .i64 (tv j))

theorem cp_start (w : World) (bx : Array Value) (tv : Nat → Int) (n : Nat) : Cp w bx tv n 0 ((w.alloc (.cells bx 52)).alloc (.cells (madeCells #[.int .i64 0] n) 41)) := by
  refine ⟨((Below.refl _ _).alloc (Nat.le_refl _) _).alloc (by simp) _, by simp, ?_, madeCells #[.int .i64 0] n, size_madeCells _ _, ?_, fun j hj => absurd hj (Nat.not_lt_zero j)⟩
  · rw [Below.heap_alloc _ _ _ (by simp)]; exact heap_new _ _
  · have := heap_new (w.alloc (.cells bx 52)) (.cells (madeCells #[.int .i64 0] n) 41)
    rwa [World.size_alloc] at this

theorem cp_step {w wr : World} {bx : Array Value} {tv : Nat → Int} {n k : Nat} (h : Cp w bx tv n k wr) (hk : k < n) : Cp w bx tv n (k + 1) (wr.setCell ⟨w.heap.size + 1, k, none⟩ (.int .i64 (tv k))).drew := by
  obtain ⟨h1, h2, h3, arr, h4, h5, h6⟩ := h
  refine ⟨(h1.setCell (by simp) _).drew, by simpa [World.setCell, heap_drew] using h2, ?_, arr.setIfInBounds k (.int .i64 (tv k)), by simpa using h4, ?_, ?_⟩
  · rw [heap_drew, heap_setCell_other _ _ _ _ (by simp)]; exact h3
  · rw [heap_drew]; exact heap_setCell_same _ _ _ _ _ _ h5
  · intro j hj
    rw [Array.getElem?_setIfInBounds]
    by_cases he : k = j
    · subst he; rw [if_pos rfl, if_pos (by omega)]
    · rw [if_neg he]; exact h6 j (by omega)

/-- A field of the set is stored into. -/
theorem cp_field {w wr : World} {bx : Array Value} {tv : Nat → Int} {n k : Nat} (h : Cp w bx tv n k wr) (i : Nat) (v : Value) : Cp w (bx.setIfInBounds i v) tv n k (wr.setCell ⟨w.heap.size, i, none⟩ v) := by
  obtain ⟨h1, h2, h3, arr, h4, h5, h6⟩ := h
  refine ⟨h1.setCell (Nat.le_refl _) _, by simpa [World.setCell] using h2, heap_setCell_same _ _ _ _ _ _ h3, arr, h4, ?_, h6⟩
  rw [heap_setCell_other _ _ _ _ (by simp)]; exact h5

/-- The row of marks lies behind the tree. -/
def Cd (w : World) (bx : Array Value) (tv : Nat → Int) (n d : Nat) (wr : World) : Prop :=
  Below w.heap.size w wr ∧ wr.heap.size = w.heap.size + 3 ∧ wr.heap[w.heap.size]? = some (.cells bx 52 (0, 0)) ∧
    (∃ arr : Array Value, arr.size = n ∧ wr.heap[w.heap.size + 1]? = some (.cells arr 41 (0, 0)) ∧ ∀ j, j < n → arr[j]? = some (.int .i64 (tv j))) ∧
    ∃ arr : Array Value, arr.size = d ∧ wr.heap[w.heap.size + 2]? = some (.cells arr 50 (0, 0))

theorem cd_start {w w1 : World} {bx : Array Value} {tv : Nat → Int} {n d : Nat} (h : Cp w bx tv n n w1) : Cd w bx tv n d (w1.alloc (.cells (madeCells #[.int .u64 0] d) 50)) := by
  obtain ⟨h1, h2, h3, arr, h4, h5, h6⟩ := h
  refine ⟨h1.alloc (by omega) _, by rw [World.size_alloc, h2], ?_, ⟨arr, h4, ?_, h6⟩, madeCells #[.int .u64 0] d, size_madeCells _ _, ?_⟩
  · rw [Below.heap_alloc _ _ _ (by omega)]; exact h3
  · rw [Below.heap_alloc _ _ _ (by omega)]; exact h5
  · rw [← h2]; exact heap_new _ _

theorem cd_step {w wr : World} {bx : Array Value} {tv : Nat → Int} {n d : Nat} (h : Cd w bx tv n d wr) (k : Nat) (v : Value) : Cd w bx tv n d (wr.setCell ⟨w.heap.size + 2, k, none⟩ v).drew := by
  obtain ⟨h1, h2, h3, ⟨arr, h4, h5, h6⟩, arr2, h7, h8⟩ := h
  refine ⟨(h1.setCell (by simp) _).drew, by simpa [World.setCell, heap_drew] using h2, ?_, ⟨arr, h4, ?_, h6⟩, arr2.setIfInBounds k v, by simpa using h7, ?_⟩
  · rw [heap_drew, heap_setCell_other _ _ _ _ (by simp)]; exact h3
  · rw [heap_drew, heap_setCell_other _ _ _ _ (by simp)]; exact h5
  · rw [heap_drew]; exact heap_setCell_same _ _ _ _ _ _ h8

/-- What the maker hands back: the set at B, its tree at R. -/
def Made (w w' : World) (B R n : Nat) (tv : Nat → Int) (top total : Int) : Prop :=
  Below w.heap.size w w' ∧ B < w'.heap.size ∧ R < w'.heap.size ∧ w'.cell? ⟨B, 2, none⟩ = some (.slice (some ⟨R, 0, none⟩) n n) ∧ w'.cell? ⟨B, 3, none⟩ = some (.int .i64 top) ∧
    w'.cell? ⟨B, 4, none⟩ = some (.int .i64 total) ∧ w'.cell? ⟨B, 8, none⟩ = some (.int .u64 0) ∧ ∀ j, j < n → w'.cell? ⟨R, j, none⟩ = some (.int .i64 (tv j))

theorem cd_end {w wr : World} {tv : Nat → Int} {n d : Nat} {v0 v1 v5 v6 v7 : Value} {top total : Int}
    (h : Cd w #[v0, v1, .slice (some ⟨w.heap.size + 1, 0, none⟩) n n, .int .i64 top, .int .i64 total, v5, v6, v7, .int .u64 0] tv n d wr) : Made w wr w.heap.size (w.heap.size + 1) n tv top total := by
  obtain ⟨h1, h2, h3, ⟨arr, h4, h5, h6⟩, _⟩ := h
  exact ⟨h1, by omega, by omega, cell_at h3 2, cell_at h3 3, cell_at h3 4, cell_at h3 8, fun j hj => by rw [cell_at h5 j]; exact h6 j hj⟩

set_option maxHeartbeats 1000000 in
theorem new_upset (wa : Option Addr) (wn wc : Nat) (whole top total : Int) (Tr n Dn d : Nat) (tv : Nat → Int) (w : World) (hn : (n : Int) ≤ 65537) (hd : (d : Int) ≤ 65537) (hTr : Tr < w.heap.size)
    (hT : ∀ j, j < n → w.cell? ⟨Tr, j, none⟩ = some (.int .i64 (tv j))) (hDn : Dn < w.heap.size) (hD : ∀ j, j < d → ∃ x, w.cell? ⟨Dn, j, none⟩ = some (.int .u64 x)) :
    Calls Try.prog 15 #[.slice wa wn wc, .int .i64 whole, .slice (some ⟨Tr, 0, none⟩) n n, .int .i64 top, .int .i64 total, .slice (some ⟨Dn, 0, none⟩) d d] w fun e w' =>
      ∃ B R, e = .returned (.pointer (some ⟨B, 0, none⟩)) ∧ Made w w' B R n tv top total := by
  have HT := hide hT
  have HD := hide hD
  clear hT hD
  have hmk := make_atoms n (by omega)
  have hmu := make_uatoms d (by omega)
  go_enter Try.func15, Try.ntmps15
  go_wp2_with fail
  clear hmk
  go_loopw [29] (fun i wr => ∃ k : Nat, k ≤ n ∧ i = .int .i64 k ∧ Hid (Cp w #[.slice wa wn wc, .int .i64 whole, .slice (some ⟨w.heap.size + 1, 0, none⟩) n n, .int .i64 top, .int .i64 0, .slice none 0 0, .int .i32 0, .int .u32 0, .int .u64 0] tv n k wr)) (fun i _ => n - (intOf i).toNat)
  case atStart => exact ⟨0, Nat.zero_le _, rfl, cp_start _ _ _ _⟩
  case round =>
    obtain ⟨k, hk, rfl, HG⟩ := hrel
    by_cases hlt : k < n
    · have g1 : wr.cell? ⟨w.heap.size, 2, none⟩ = some (.slice (some ⟨w.heap.size + 1, 0, none⟩) n n) := cell_at HG.out.2.2.1 2
      have g2 : wr.cell? ⟨Tr, k, none⟩ = some (.int .i64 (tv k)) := (HG.out.1.cell (p := ⟨Tr, k, none⟩) hTr).trans (HT.out k hlt)
      obtain ⟨old, g3⟩ : ∃ v, wr.cell? ⟨w.heap.size + 1, k, none⟩ = some v := by
        obtain ⟨_, _, _, arr, h4, h5, _⟩ := HG.out
        exact ⟨arr[k], by rw [cell_at h5 k]; simp⟩
      have g4 : wr.frozen? ⟨w.heap.size + 1, k, none⟩ = false := by
        obtain ⟨_, _, _, arr, h4, h5, _⟩ := HG.out
        exact frozen_of_row _ _ _ _ _ h5
      have hltI : (k : Int) < (n : Int) := by omega
      go_wp2_with fail
      go_region_with (go_at_call 18; refine (store_i _ _ old _ _ ?_ ?_).mono ?_; exact g3; exact g4; rintro e w' ⟨rfl, rfl⟩)
      all_goals
        go_wp2_with fail
        go_roundw
        case rel => exact ⟨k + 1, by omega, by go_num, cp_step HG.out hlt⟩
        case measure => simp [intOf]; omega
    · have hkn : k = n := by omega
      subst hkn
      have g1 : wr.cell? ⟨w.heap.size, 4, none⟩ = some (.int .i64 0) := cell_at HG.out.2.2.1 4
      have g2 : wr.frozen? ⟨w.heap.size, 4, none⟩ = false := frozen_of_row _ _ _ _ _ HG.out.2.2.1
      go_wp2_with fail
      refine (store_i _ _ _ _ _ g1 g2).mono ?_
      rintro e w1 ⟨rfl, hw1⟩
      have HG1 := hide (cp_field HG.out 4 (.int .i64 total))
      rw [← hw1] at HG1
      clear hw1 g1 g2 HG
      have g1 : w1.cell? ⟨w.heap.size, 5, none⟩ = some (.slice none 0 0) := cell_at HG1.out.2.2.1 5
      have g2 : w1.frozen? ⟨w.heap.size, 5, none⟩ = false := frozen_of_row _ _ _ _ _ HG1.out.2.2.1
      have hz : w1.heap.size = w.heap.size + 2 := HG1.out.2.1
      have hB : w.heap.size < w1.heap.size := by omega
      go_wp2_with fail
      clear g1 g2 hmu
      have HG2 : Hid (Cp w #[.slice wa wn wc, .int .i64 whole, .slice (some ⟨w.heap.size + 1, 0, none⟩) k k, .int .i64 top, .int .i64 total, .slice (some ⟨w.heap.size + 2, 0, none⟩) d d, .int .i32 0, .int .u32 0, .int .u64 0] tv k k
          (w1.setCell ⟨w.heap.size, 5, none⟩ (.slice (some ⟨w.heap.size + 2, 0, none⟩) d d))) := by
        have := cp_field HG1.out 5 (.slice (some ⟨w.heap.size + 2, 0, none⟩) d d)
        simp at this
        exact this
      clear HG1
      go_loopw [57] (fun i wr => ∃ q : Nat, q ≤ d ∧ i = .int .i64 q ∧ Hid (Cd w #[.slice wa wn wc, .int .i64 whole, .slice (some ⟨w.heap.size + 1, 0, none⟩) k k, .int .i64 top, .int .i64 total, .slice (some ⟨w.heap.size + 2, 0, none⟩) d d, .int .i32 0, .int .u32 0, .int .u64 0] tv k d wr)) (fun i _ => d - (intOf i).toNat)
      case atStart => exact ⟨0, Nat.zero_le _, rfl, cd_start HG2.out⟩
      case round =>
        obtain ⟨q, hq, rfl, HG3⟩ := hrel
        clear HG2
        by_cases hqd : q < d
        · obtain ⟨x, hx⟩ := HD.out q hqd
          have g1 : wr.cell? ⟨w.heap.size, 5, none⟩ = some (.slice (some ⟨w.heap.size + 2, 0, none⟩) d d) := cell_at HG3.out.2.2.1 5
          have g2 : wr.cell? ⟨Dn, q, none⟩ = some (.int .u64 x) := (HG3.out.1.cell (p := ⟨Dn, q, none⟩) hDn).trans hx
          obtain ⟨old, g3⟩ : ∃ v, wr.cell? ⟨w.heap.size + 2, q, none⟩ = some v := by
            obtain ⟨_, _, _, _, arr, h4, h5⟩ := HG3.out
            exact ⟨arr[q], by rw [cell_at h5 q]; simp⟩
          have g4 : wr.frozen? ⟨w.heap.size + 2, q, none⟩ = false := by
            obtain ⟨_, _, _, _, arr, h4, h5⟩ := HG3.out
            exact frozen_of_row _ _ _ _ _ h5
          have hqI : (q : Int) < (d : Int) := by omega
          clear hx hz hB
          go_wp2_with fail
          go_region_with (go_at_call 19; refine (store_u _ _ old _ _ ?_ ?_).mono ?_; exact g3; exact g4; rintro e w' ⟨rfl, rfl⟩)
          all_goals
            go_wp2_with fail
            go_roundw
            case rel => exact ⟨q + 1, by omega, by go_num, cd_step HG3.out q _⟩
            case measure => simp [intOf]; omega
        · clear hz hB
          go_wp2_with fail
          go_ret
          exact ⟨_, _, rfl, cd_end HG3.out⟩
end Go.Proofs.Qxb6615931a.Us
