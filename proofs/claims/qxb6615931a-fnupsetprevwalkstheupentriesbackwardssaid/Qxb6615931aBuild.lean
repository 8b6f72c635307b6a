/-
  THE WALK of zzUpSet.
-/
import Derived.Test.Qxb6615931aNew
import Derived.Test.Qxb6615931aDomain
import Derived.RegionTactic
namespace Go.Proofs.Qxb6615931a.Us
open Go.RowKit

theorem make_ints (l : Int) (n : Nat) (hl : l = n) (h : n ≤ 65537) (w : World) :
    (Instr.makeSlice 30 (.int .i64 l) (.int .i64 l)).run Try.prog w = .ok (.slice (some ⟨w.heap.size, 0, none⟩) n n) (w.alloc (.cells (madeCells #[.int .i64 0] n) 2)) :=
  run_make_cells 30 2 (.int .i64 0) 8 Try.underlying30 (by kernel_rfl) l n hl (by omega) (by omega) w
theorem make_marks (l : Int) (n : Nat) (hl : l = n) (h : n ≤ 65537) (w : World) :
    (Instr.makeSlice 31 (.int .i64 l) (.int .i64 l)).run Try.prog w = .ok (.slice (some ⟨w.heap.size, 0, none⟩) n n) (w.alloc (.cells (madeCells #[.int .u64 0] n) 32)) :=
  run_make_cells 31 32 (.int .u64 0) 8 Try.underlying31 (by kernel_rfl) l n hl (by omega) (by omega) w

/-- The three rows that zzUpSet makes: the weights, the tree (it holds tv), the marks. -/
def Bw (w : World) (n d : Nat) (tv : Nat → Int) (wr : World) : Prop :=
  Below w.heap.size w wr ∧ wr.heap.size = w.heap.size + 1 + 1 + 1 ∧ (∃ a0 : Array Value, a0.size = n ∧ wr.heap[w.heap.size]? = some (.cells a0 2 (0, 0))) ∧
    (∃ a1 : Array Value, a1.size = n + 1 ∧ wr.heap[w.heap.size + 1]? = some (.cells a1 2 (0, 0)) ∧ ∀ j, j ≤ n → a1[j]? = some (.int .i64 (tv j))) ∧
    ∃ a2 : Array Value, a2.size = d ∧ wr.heap[w.heap.size + 1 + 1]? = some (.cells a2 32 (0, 0)) ∧ ∀ i, i < d → ∃ x, a2[i]? = some (.int .u64 x)

theorem made_at (z : Value) (n j : Nat) (h : j < n) : (madeCells #[z] n)[j]? = some z := by
  unfold madeCells
  have : j % 1 = 0 := Nat.mod_one j
  simp [h, this]

theorem bw_start (w : World) (n d : Nat) : Bw w n d (fun _ => 0) (((w.alloc (.cells (madeCells #[.int .i64 0] n) 2)).alloc (.cells (madeCells #[.int .i64 0] (n + 1)) 2)).alloc (.cells (madeCells #[.int .u64 0] d) 32)) := by
  refine ⟨(((Below.refl _ _).alloc (Nat.le_refl _) _).alloc (by simp) _).alloc (by simp; omega) _, by simp, ⟨madeCells #[.int .i64 0] n, size_madeCells _ _, ?_⟩, ⟨madeCells #[.int .i64 0] (n + 1), size_madeCells _ _, ?_, fun j hj => made_at _ _ _ (by omega)⟩,
    madeCells #[.int .u64 0] d, size_madeCells _ _, ?_, fun i hi => ⟨0, made_at _ _ _ hi⟩⟩
  · rw [Below.heap_alloc _ _ _ (by simp; omega), Below.heap_alloc _ _ _ (by simp)]; exact heap_new _ _
  · rw [Below.heap_alloc _ _ _ (by simp)]
    have := heap_new (w.alloc (.cells (madeCells #[.int .i64 0] n) 2)) (.cells (madeCells #[.int .i64 0] (n + 1)) 2)
    rwa [World.size_alloc] at this
  · have := heap_new ((w.alloc (.cells (madeCells #[.int .i64 0] n) 2)).alloc (.cells (madeCells #[.int .i64 0] (n + 1)) 2)) (.cells (madeCells #[.int .u64 0] d) 32)
    rwa [World.size_alloc, World.size_alloc] at this

theorem bw_weight {w wr : World} {n d : Nat} {tv : Nat → Int} (h : Bw w n d tv wr) (i : Nat) (v : Value) : Bw w n d tv (wr.setCell ⟨w.heap.size, i, none⟩ v) := by
  obtain ⟨h1, h2, ⟨a0, h3, h4⟩, ⟨a1, h5, h6, h7⟩, a2, h8, h9, h10⟩ := h
  refine ⟨h1.setCell (Nat.le_refl _) _, by simpa [World.setCell] using h2, ⟨a0.setIfInBounds i v, by simpa using h3, heap_setCell_same _ _ _ _ _ _ h4⟩, ⟨a1, h5, ?_, h7⟩, a2, h8, ?_, h10⟩
  · rw [heap_setCell_other _ _ _ _ (by simp)]; exact h6
  · rw [heap_setCell_other _ _ _ _ (by show w.heap.size + 1 + 1 ≠ w.heap.size; omega)]; exact h9

theorem bw_tree {w wr : World} {n d : Nat} {tv tv' : Nat → Int} (h : Bw w n d tv wr) (i : Nat) (v : Int) (hi : i ≤ n) (hv : tv' i = v) (ho : ∀ j, j ≤ n → j ≠ i → tv' j = tv j) : Bw w n d tv' (wr.setCell ⟨w.heap.size + 1, i, none⟩ (.int .i64 v)) := by
  obtain ⟨h1, h2, ⟨a0, h3, h4⟩, ⟨a1, h5, h6, h7⟩, a2, h8, h9, h10⟩ := h
  refine ⟨h1.setCell (by simp) _, by simpa [World.setCell] using h2, ⟨a0, h3, ?_⟩, ⟨a1.setIfInBounds i (.int .i64 v), by simpa using h5, heap_setCell_same _ _ _ _ _ _ h6, fun j hj => ?_⟩, a2, h8, ?_, h10⟩
  · rw [heap_setCell_other _ _ _ _ (by show w.heap.size ≠ w.heap.size + 1; omega)]; exact h4
  · rw [Array.getElem?_setIfInBounds]
    by_cases he : i = j
    · subst he; rw [if_pos rfl, if_pos (by omega), hv]
    · rw [if_neg he, ho j hj (fun e => he e.symm)]; exact h7 j hj
  · rw [heap_setCell_other _ _ _ _ (by show w.heap.size + 1 + 1 ≠ w.heap.size + 1; omega)]; exact h9

theorem bw_mark {w wr : World} {n d : Nat} {tv : Nat → Int} (h : Bw w n d tv wr) (i : Nat) (v : Int) : Bw w n d tv (wr.setCell ⟨w.heap.size + 1 + 1, i, none⟩ (.int .u64 v)) := by
  obtain ⟨h1, h2, ⟨a0, h3, h4⟩, ⟨a1, h5, h6, h7⟩, a2, h8, h9, h10⟩ := h
  refine ⟨h1.setCell (by show w.heap.size ≤ w.heap.size + 1 + 1; omega) _, by simpa [World.setCell] using h2, ⟨a0, h3, ?_⟩, ⟨a1, h5, ?_, h7⟩, a2.setIfInBounds i (.int .u64 v), by simpa using h8, heap_setCell_same _ _ _ _ _ _ h9, fun j hj => ?_⟩
  · rw [heap_setCell_other _ _ _ _ (by show w.heap.size ≠ w.heap.size + 1 + 1; omega)]; exact h4
  · rw [heap_setCell_other _ _ _ _ (by show w.heap.size + 1 ≠ w.heap.size + 1 + 1; omega)]; exact h6
  · rw [Array.getElem?_setIfInBounds]
    by_cases he : i = j
    · subst he; rw [if_pos rfl, if_pos (by omega)]; exact ⟨v, rfl⟩
    · rw [if_neg he]; exact h10 j hj

/-- What an entry that is up weighs. -/
def uw (n : Nat) (wt : Nat → Int) (up : Nat → Bool) (e : Nat) : Int := if e < n ∧ up e = true then wt e else 0

theorem uw_pos {n : Nat} {wt : Nat → Int} (up : Nat → Bool) (h : Dom n wt) (e : Nat) : 0 ≤ uw n wt up e := by
  unfold uw
  by_cases c : e < n ∧ up e = true
  · rw [if_pos c]; have := h.1 e c.1; omega
  · rw [if_neg c]; exact Int.le_refl _
theorem S_upto {wt : Nat → Int} {n : Nat} (h : ∀ e, e < n → 1 ≤ wt e) (a b : Nat) (hab : a ≤ b) (hb : b ≤ n) : Fen.S wt a ≤ Fen.S wt b := by
  obtain ⟨d, rfl⟩ : ∃ d, b = a + d := ⟨b - a, by omega⟩
  clear hab
  induction d with
  | zero => exact Int.le_refl _
  | succ d ih =>
    have h1 := ih (by omega)
    have h2 := h (a + d) (by omega)
    show _ ≤ Fen.S wt (a + d) + wt (a + d)
    omega
theorem S_uw_le {n : Nat} {wt : Nat → Int} (up : Nat → Bool) (h : Dom n wt) (k : Nat) (hk : k ≤ n) : Fen.S (uw n wt up) k ≤ Fen.S wt k := by
  induction k with
  | zero => exact Int.le_refl _
  | succ k ih =>
    have h1 := ih (by omega)
    have h2 : uw n wt up k ≤ wt k := by
      unfold uw
      by_cases c : k < n ∧ up k = true
      · rw [if_pos c]; exact Int.le_refl _
      · rw [if_neg c]; have := h.1 k (by omega); omega
    show Fen.S (uw n wt up) k + uw n wt up k ≤ Fen.S wt k + wt k
    omega
theorem uw_room {n : Nat} {wt : Nat → Int} (up : Nat → Bool) (h : Dom n wt) (k : Nat) (hk : k < n) : 0 ≤ Fen.S (uw n wt up) k ∧ 1 ≤ wt k ∧ Fen.S (uw n wt up) k + wt k ≤ 9223372036854775807 := by
  have h1 := S_uw_le up h k (by omega)
  have h2 := S_upto h.1 (k + 1) n (by omega) (Nat.le_refl n)
  have h3 : Fen.S wt (k + 1) = Fen.S wt k + wt k := rfl
  have h4 := h.2
  exact ⟨Fen.S_nonneg (uw_pos up h) k, h.1 k hk, by omega⟩
theorem uw_fits {n : Nat} {wt : Nat → Int} (up : Nat → Bool) (h : Dom n wt) : Fen.S (uw n wt up) n ≤ 9223372036854775807 := by
  have h1 := S_uw_le up h n (Nat.le_refl n)
  have h2 := h.2
  omega
/-- The tree when the first k entries have been laid in. -/
def tvAt (u : Nat → Int) (k j : Nat) : Int := if 1 ≤ j ∧ j ≤ k then u (j - 1) else 0

theorem bw_congr {w wr : World} {n d : Nat} {tv tv' : Nat → Int} (h : Bw w n d tv wr) (he : ∀ j, j ≤ n → tv j = tv' j) : Bw w n d tv' wr := by
  obtain ⟨h1, h2, h3, ⟨a1, h5, h6, h7⟩, h8⟩ := h
  exact ⟨h1, h2, h3, ⟨a1, h5, h6, fun j hj => by rw [← he j hj]; exact h7 j hj⟩, h8⟩
theorem bw_zero (w : World) (n d : Nat) (u : Nat → Int) : Bw w n d (tvAt u 0) (((w.alloc (.cells (madeCells #[.int .i64 0] n) 2)).alloc (.cells (madeCells #[.int .i64 0] (n + 1)) 2)).alloc (.cells (madeCells #[.int .u64 0] d) 32)) :=
  bw_congr (bw_start w n d) (fun j _ => by unfold tvAt; rw [if_neg (by omega)])

/-- What the walk reads in the three rows. -/
theorem bw_reads {w wr : World} {n d : Nat} {tv : Nat → Int} (h : Bw w n d tv wr) :
    (∀ i, i < n → ∃ v, wr.cell? ⟨w.heap.size, i, none⟩ = some v) ∧ (∀ i, wr.frozen? ⟨w.heap.size, i, none⟩ = false) ∧
    (∀ j, j ≤ n → wr.cell? ⟨w.heap.size + 1, j, none⟩ = some (.int .i64 (tv j))) ∧ (∀ i, wr.frozen? ⟨w.heap.size + 1, i, none⟩ = false) ∧
    (∀ i, i < d → ∃ x, wr.cell? ⟨w.heap.size + 1 + 1, i, none⟩ = some (.int .u64 x)) ∧ (∀ i, wr.frozen? ⟨w.heap.size + 1 + 1, i, none⟩ = false) := by
  obtain ⟨h1, h2, ⟨a0, h3, h4⟩, ⟨a1, h5, h6, h7⟩, a2, h8, h9, h10⟩ := h
  refine ⟨fun i hi => ⟨a0[i], by rw [cell_at h4 i]; simp⟩, fun i => frozen_of_row _ _ _ _ _ h4, fun j hj => by rw [cell_at h6 j]; exact h7 j hj, fun i => frozen_of_row _ _ _ _ _ h6, fun i hi => ?_, fun i => frozen_of_row _ _ _ _ _ h9⟩
  obtain ⟨x, hx⟩ := h10 i hi
  exact ⟨x, by rw [cell_at h9 i]; exact hx⟩

theorem bw_drew {w wr : World} {n d : Nat} {tv : Nat → Int} (h : Bw w n d tv wr) : Bw w n d tv wr.drew := by
  obtain ⟨h1, h2, h3, h4, h5⟩ := h
  exact ⟨h1.drew, h2, h3, h4, h5⟩

/-- An upSet over the entries' weights is handed back. -/
def IsSet (w : World) (n : Nat) (u : Nat → Int) (e : Ending) (w' : World) : Prop :=
  ∃ B R ex, e = .returned (.pointer (some ⟨B, 0, none⟩)) ∧ UpAt w' B n ex u R ∧ B < w'.heap.size ∧ R < w'.heap.size ∧ Below w.heap.size w w'

theorem set_made {w wr : World} {n d : Nat} {wt : Nat → Int} {up : Nat → Bool} {y : Int} (h : Bw w n d (Fen.tr (uw n wt up) (n + 1)) wr) (hD : Dom n wt) (hy : y = Fen.S (uw n wt up) n) (hn : (n : Int) ≤ 65536) (hd : (d : Int) ≤ 65537)
    (wa : Option Addr) (wn wc : Nat) (whole top : Int) (ex : Nat) (htop : top = (stepOf ex : Int)) (hex : n < 2 ^ ex) (hst : stepOf ex ≤ 65536) :
    Calls Try.prog 15 #[.slice wa wn wc, .int .i64 whole, .slice (some ⟨w.heap.size + 1, 0, none⟩) (n + 1) (n + 1), .int .i64 top, .int .i64 y, .slice (some ⟨w.heap.size + 1 + 1, 0, none⟩) d d] wr fun e w' => IsSet w n (uw n wt up) e w' := by
  obtain ⟨_, _, f3, _, f5, _⟩ := bw_reads h
  have hz := h.2.1
  refine (new_upset wa wn wc whole top y (w.heap.size + 1) (n + 1) (w.heap.size + 1 + 1) d (Fen.tr (uw n wt up) (n + 1)) wr (by omega) hd (by omega) (fun j hj => f3 j (by omega)) (by omega) f5).mono ?_
  rintro e w' ⟨B, R, rfl, hb, hB, hR, c2, c3, c4, c8, hnode⟩
  refine ⟨B, R, ex, rfl, ?_, hB, hR, h.1.trans (hb.mono (by omega))⟩
  exact { tree := c2, top := by rw [c3, htop], total := by rw [c4, hy], version := c8, node := fun j h1 h2 => by rw [hnode j (by omega), Fen.tr_done _ (by omega) (by omega)],
          upto := hex, step := hst, small := by omega, pos := uw_pos up hD, fits := uw_fits up hD }

set_option maxHeartbeats 1000000 in
theorem up_set (a : Option Addr) (n c : Nat) (wt : Nat → Int) (up : Nat → Bool) (w : World) (hn : (n : Int) ≤ 65536) (hE : Entries w a n wt up) (hD : Dom n wt) :
    Calls Try.prog 9 #[.slice a n c] w fun e w' => IsSet w n (uw n wt up) e w' := by
  have HE := hide hE
  have HD := hide hD
  clear hE hD
  have m1 := make_ints n n rfl (by omega)
  have m2 := make_ints ((n : Int) + 1) (n + 1) (by omega) (by omega)
  have m3 := make_marks (((n : Int) + 63) / 64) ((n + 63) / 64) (by omega) (by omega)
  go_enter Try.func9, Try.ntmps9
  go_wp2_with fail
  clear m1 m2 m3
  have Hd : Hid ((n + 63) / 64 = (n + 63) / 64) := rfl
  generalize hdd : (n + 63) / 64 = d at *
  have HDD := hide hdd
  clear hdd Hd
  go_loopw [7, 8, 9, 10] (fun wh tt ao i wr => ∃ (k : Nat) (x y : Int) (b : Bool), k ≤ n ∧ i = .int .i64 k ∧ wh = .int .i64 x ∧ tt = .int .i64 y ∧ ao = .bool b ∧ Hid (y = Fen.S (uw n wt up) k) ∧ Hid (Bw w n d (tvAt (uw n wt up) k) wr)) (fun _ _ _ i _ => n - (intOf i).toNat)
  case atStart => exact ⟨0, 0, 0, true, Nat.zero_le _, rfl, rfl, rfl, rfl, rfl, bw_zero w n d (uw n wt up)⟩
  case round =>
    obtain ⟨k, x, y, bb, hk, rfl, rfl, rfl, rfl, HY, HB⟩ := hrel
    by_cases hlt : k < n
    · obtain ⟨b, off, hb, ha, e0, e1, b0, b1⟩ := HE.out k hlt
      subst ha
      have c0 : wr.cell? ⟨b, off + k * 2, none⟩ = some (.int .i64 (wt k)) := (HB.out.1.cell (p := ⟨b, off + k * 2, none⟩) hb).trans e0
      have c1 : wr.cell? ⟨b, off + k * 2 + 1, none⟩ = some (.bool (up k)) := (HB.out.1.cell (p := ⟨b, off + k * 2 + 1, none⟩) hb).trans e1
      have hne : b ≠ w.heap.size := by omega
      clear e0 e1
      obtain ⟨f1, f2, _⟩ := bw_reads HB.out
      obtain ⟨old0, f1k⟩ := f1 k hlt
      have f2k := f2 k
      -- behind the store of the weight
      have HB1 := hide (bw_weight HB.out k (.int .i64 (wt k)))
      have c1' := (HB1.out.1.cell (p := ⟨b, off + k * 2 + 1, none⟩) hb).trans ((HB.out.1.cell (p := ⟨b, off + k * 2 + 1, none⟩) hb).symm.trans c1)
      obtain ⟨_, _, g3, g4, g5, g6⟩ := bw_reads HB1.out
      clear f1 f2 c1
      cases hup : up k with
      | true =>
        rw [hup] at c1'
        have g3k := g3 (k + 1) (by omega)
        have g4k := g4 (k + 1)
        have ht0 : tvAt (uw n wt up) k (k + 1) = 0 := by unfold tvAt; rw [if_neg (by omega)]
        rw [ht0] at g3k
        clear g3 g4 g5 g6 ht0
        have HY2 : Hid (y + wt k = Fen.S (uw n wt up) (k + 1)) := by
          have h1 := HY.out
          have h2 : uw n wt up k = wt k := by unfold uw; rw [if_pos ⟨hlt, hup⟩]
          show y + wt k = Fen.S (uw n wt up) k + uw n wt up k
          omega
        have HB2 : Hid (Bw w n d (tvAt (uw n wt up) (k + 1)) ((wr.setCell ⟨w.heap.size, k, none⟩ (.int .i64 (wt k))).setCell ⟨w.heap.size + 1, k + 1, none⟩ (.int .i64 (wt k)))) :=
          bw_tree HB1.out (k + 1) (wt k) (by omega) (by unfold tvAt; rw [if_pos ⟨by omega, by omega⟩]; show uw n wt up k = wt k; unfold uw; rw [if_pos ⟨hlt, hup⟩]) (fun j hj hne => by
            unfold tvAt
            by_cases c : 1 ≤ j ∧ j ≤ k
            · rw [if_pos c, if_pos ⟨c.1, by omega⟩]
            · rw [if_neg c, if_neg (by omega)])
        have hroom := uw_room up HD.out k hlt
        rw [← HY.out] at hroom
        obtain ⟨r0, r1, r2⟩ := hroom
        clear HB HB1 HY hup
        go_wp2_with fail
        all_goals
          go_roundw
          case rel => exact ⟨k + 1, _, y + wt k, _, by omega, by go_num, rfl, rfl, rfl, HY2.out, HB2.out⟩
          case measure => simp [intOf]; omega
      | false =>
        rw [hup] at c1'
        have hk64 : k / 64 < d := by have := HDD.out; omega
        obtain ⟨m0, g5k⟩ := g5 (k / 64) hk64
        have g6k := g6 (k / 64)
        clear g3 g4 g5 g6
        have HY2 : Hid (y = Fen.S (uw n wt up) (k + 1)) := by
          have h1 := HY.out
          have h2 : uw n wt up k = 0 := by unfold uw; rw [if_neg (by rw [hup]; simp)]
          show y = Fen.S (uw n wt up) k + uw n wt up k
          omega
        have hkI : (k : Int) / 64 < (d : Int) := by omega
        have HB2 : Hid (∀ v, Bw w n d (tvAt (uw n wt up) (k + 1)) ((wr.setCell ⟨w.heap.size, k, none⟩ (.int .i64 (wt k))).setCell ⟨w.heap.size + 1 + 1, k / 64, none⟩ (.int .u64 v))) := fun v =>
          bw_congr (bw_mark HB1.out (k / 64) v) (fun j hj => by
            unfold tvAt
            by_cases c : 1 ≤ j ∧ j ≤ k
            · rw [if_pos c, if_pos ⟨c.1, by omega⟩]
            · rw [if_neg c]
              by_cases c2 : j = k + 1
              · subst c2
                rw [if_pos ⟨by omega, by omega⟩]
                show 0 = uw n wt up k
                unfold uw; rw [if_neg (by rw [hup]; simp)]
              · rw [if_neg (by omega)])
        clear HB HB1 HY hup
        go_wp2_with fail
        all_goals
          go_roundw
          case rel => exact ⟨k + 1, _, y, _, by omega, by go_num, rfl, rfl, rfl, HY2.out, HB2.out _⟩
          case measure => simp [intOf]; omega
    · have hkn : k = n := by omega
      subst hkn
      have HB1 : Hid (Bw w k d (Fen.tr (uw k wt up) 1) wr) := bw_congr HB.out (fun j hj => by
        rw [Fen.tr_first]
        unfold tvAt
        by_cases c : j = 0
        · rw [if_pos c, if_neg (by omega)]
        · rw [if_neg c, if_pos ⟨by omega, hj⟩])
      clear HB
      go_wp2_with fail
      go_loopw [12] (fun i wr => ∃ j : Nat, 1 ≤ j ∧ j ≤ k + 1 ∧ i = .int .i64 j ∧ Hid (Bw w k d (Fen.tr (uw k wt up) j) wr)) (fun i _ => k + 1 - (intOf i).toNat)
      case atStart => exact ⟨1, by omega, by omega, rfl, HB1.out⟩
      case round =>
        clear HB1
        obtain ⟨j, hj1, hj2, rfl, HB⟩ := hrel
        by_cases hj : j ≤ k
        · obtain ⟨_, _, f3, f4, _⟩ := bw_reads HB.out
          have hneg := and_neg j (by omega) (by omega)
          have hlb0 := Fen.lb_pos (show 0 < j by omega)
          have hlb1 := Fen.lb_le j
          by_cases hp : j + Fen.lb j ≤ k
          · have c1 := f3 (j + Fen.lb j) hp
            have c2 := f3 j hj
            have c3 := f4 (j + Fen.lb j)
            have hsum := Fen.tr_parent (uw k wt up) (show 0 < j by omega)
            have r1 := Fen.tr_range (uw_pos up HD.out) (J := j) hp
            have r2 := Fen.tr_range (uw_pos up HD.out) (J := j) hj
            have r3 := (Fen.tr_range (uw_pos up HD.out) (J := j + 1) hp).2
            rw [hsum] at r3
            have r4 := uw_fits up HD.out
            have HB2 : Hid (Bw w k d (Fen.tr (uw k wt up) (j + 1)) (wr.setCell ⟨w.heap.size + 1, j + Fen.lb j, none⟩ (.int .i64 (Fen.tr (uw k wt up) j (j + Fen.lb j) + Fen.tr (uw k wt up) j j)))) :=
              bw_tree HB.out (j + Fen.lb j) _ hp hsum (fun i hi hne => Fen.tr_other _ hne)
            have hpI : (j : Int) + (Fen.lb j : Int) ≤ (k : Int) := by omega
            have s1 : 0 ≤ Fen.tr (uw k wt up) j (j + Fen.lb j) + Fen.tr (uw k wt up) j j := by omega
            have s2 : Fen.tr (uw k wt up) j (j + Fen.lb j) + Fen.tr (uw k wt up) j j ≤ 9223372036854775807 := by omega
            clear f3 f4 hsum r1 r2 r3 r4 HB
            generalize Fen.tr (uw k wt up) j (j + Fen.lb j) = A at *
            generalize Fen.tr (uw k wt up) j j = B at *
            go_wp2_with fail
            go_region
            go_wp2_with fail
            go_roundw
            case rel => exact ⟨j + 1, by omega, by omega, by go_num, bw_drew HB2.out⟩
            case measure => simp [intOf]; omega
          · have hpI : (k : Int) < (j : Int) + (Fen.lb j : Int) := by omega
            have HB2 : Hid (Bw w k d (Fen.tr (uw k wt up) (j + 1)) wr) := bw_congr HB.out (fun i hi => (Fen.tr_other _ (by omega)).symm)
            clear f3 f4 HB
            go_wp2_with fail
            go_roundw
            case rel => exact ⟨j + 1, by omega, by omega, by go_num, HB2.out⟩
            case measure => simp [intOf]; omega
        · have hjk : j = k + 1 := by omega
          subst hjk
          have HM : Hid (∀ (wa : Option Addr) (wn wc : Nat) (whole top : Int) (e : Nat), top = (stepOf e : Int) → k < 2 ^ e → stepOf e ≤ 65536 →
              Calls Try.prog 15 #[.slice wa wn wc, .int .i64 whole, .slice (some ⟨w.heap.size + 1, 0, none⟩) (k + 1) (k + 1), .int .i64 top, .int .i64 y, .slice (some ⟨w.heap.size + 1 + 1, 0, none⟩) d d] wr fun e w' => IsSet w k (uw k wt up) e w') :=
            fun wa wn wc whole top e h1 h2 h3 => set_made HB.out HD.out HY.out hn (by have := HDD.out; omega) wa wn wc whole top e h1 h2 h3
          clear HB HY HDD
          by_cases hk0 : 0 < k
          · go_wp2_with fail
            go_loop [14] (fun t => ∃ p : Nat, t = .int .i64 p ∧ 1 ≤ p ∧ p ≤ k ∧ Hid (∃ a, p = 2 ^ a)) (fun t => k - (intOf t).toNat)
            case atStart => exact ⟨1, rfl, by omega, by omega, 0, rfl⟩
            case round =>
              obtain ⟨p, rfl, hp0, hp1, HP⟩ := hrel
              by_cases hp2 : (p : Int) ≤ (k : Int) / 2
              · go_wp2_with fail
                go_round
                case rel => exact ⟨p * 2, by go_num, by omega, by omega, by obtain ⟨a, ha⟩ := HP.out; exact ⟨a + 1, by rw [ha, Nat.pow_succ]⟩⟩
                case measure => simp [intOf]; omega
              · have HC : Hid (∀ (wa : Option Addr) (wn wc : Nat) (whole : Int),
                    Calls Try.prog 15 #[.slice wa wn wc, .int .i64 whole, .slice (some ⟨w.heap.size + 1, 0, none⟩) (k + 1) (k + 1), .int .i64 p, .int .i64 y, .slice (some ⟨w.heap.size + 1 + 1, 0, none⟩) d d] wr fun e w' => IsSet w k (uw k wt up) e w') := by
                  obtain ⟨a, ha⟩ := HP.out
                  exact fun wa wn wc whole => HM.out wa wn wc whole p (a + 1) (by rw [ha]; rfl) (by rw [Nat.pow_succ, ← ha]; omega) (by show 2 ^ a ≤ 65536; rw [← ha]; omega)
                clear HM HP
                cases bb with
                | true =>
                  go_wp2_with fail
                  refine (HC.out _ _ _ _).mono ?_
                  rintro e w' ⟨B, R, e', rfl, h⟩
                  have HF := hide h
                  clear h
                  go_wp2_with fail
                  go_ret
                  exact ⟨B, R, e', rfl, HF.out⟩
                | false =>
                  go_wp2_with fail
                  refine (HC.out _ _ _ _).mono ?_
                  rintro e w' ⟨B, R, e', rfl, h⟩
                  have HF := hide h
                  clear h
                  go_wp2_with fail
                  go_ret
                  exact ⟨B, R, e', rfl, HF.out⟩
          · have HC : Hid (∀ (wa : Option Addr) (wn wc : Nat) (whole : Int),
                Calls Try.prog 15 #[.slice wa wn wc, .int .i64 whole, .slice (some ⟨w.heap.size + 1, 0, none⟩) (k + 1) (k + 1), .int .i64 0, .int .i64 y, .slice (some ⟨w.heap.size + 1 + 1, 0, none⟩) d d] wr fun e w' => IsSet w k (uw k wt up) e w') :=
              fun wa wn wc whole => HM.out wa wn wc whole 0 0 rfl (by simp; omega) (by show 0 ≤ 65536; omega)
            clear HM
            cases bb with
            | true =>
              go_wp2_with fail
              refine (HC.out _ _ _ _).mono ?_
              rintro e w' ⟨B, R, e', rfl, h⟩
              have HF := hide h
              clear h
              go_wp2_with fail
              go_ret
              exact ⟨B, R, e', rfl, HF.out⟩
            | false =>
              go_wp2_with fail
              refine (HC.out _ _ _ _).mono ?_
              rintro e w' ⟨B, R, e', rfl, h⟩
              have HF := hide h
              clear h
              go_wp2_with fail
              go_ret
              exact ⟨B, R, e', rfl, HF.out⟩
end Go.Proofs.Qxb6615931a.Us
