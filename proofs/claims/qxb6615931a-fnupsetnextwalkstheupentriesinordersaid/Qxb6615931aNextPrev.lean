/-
  PLAIN LEMMAS on next and prev; entries in a later world; the guards on lengths.
-/
import Derived.Test.Qxb6615931aBuild
import Derived.Test.Qxb6615931aRead
namespace Go.Proofs.Qxb6615931a.Us
open Go.RowKit

theorem next_skip {u : Nat → Int} {n k : Nat} {g : Int} (h : Fen.Next u n k g) (hk : u k = 0) : Fen.Next u n ((k : Int) + 1) g := by
  rcases h with ⟨h1, h2⟩ | ⟨i, h1, h2, h3, h4, h5⟩
  · exact .inl ⟨h1, fun e he hx => h2 e he (by omega)⟩
  · refine .inr ⟨i, h1, h2, ?_, h4, fun e he hx => h5 e he (by omega)⟩
    by_cases e : i = k
    · subst e; omega
    · omega
theorem next_hit {u : Nat → Int} {n k : Nat} {g : Int} (h : Fen.Next u n k g) (hn : k < n) (hk : 0 < u k) : g = k := by
  rcases h with ⟨h1, h2⟩ | ⟨i, h1, h2, h3, h4, h5⟩
  · have := h2 k hn (by omega); omega
  · by_cases e : i = k
    · subst e; exact h2
    · have := h5 k (by omega) (by omega); omega
theorem next_end {u : Nat → Int} {n : Nat} {g : Int} (h : Fen.Next u n n g) : g = -1 := by
  rcases h with ⟨h1, h2⟩ | ⟨i, h1, h2, h3, h4, h5⟩
  · exact h1
  · omega
theorem next_is {u : Nat → Int} {n k : Nat} {x g : Int} (h : Fen.Next u n x g) (hb : ∀ e : Nat, e < k → x ≤ e → u e = 0) (hn : k < n) (hx : x ≤ k) (hk : 0 < u k) : g = k :=
  Fen.next_unique h (.inr ⟨k, hn, rfl, hx, hk, hb⟩)
theorem next_isnt {u : Nat → Int} {n : Nat} {x g : Int} (h : Fen.Next u n x g) (hb : ∀ e : Nat, e < n → x ≤ e → u e = 0) : g = -1 :=
  Fen.next_unique h (.inl ⟨rfl, hb⟩)

theorem prev_hit {u : Nat → Int} {n k : Nat} {g : Int} (h : Fen.Prev u n k g) (hn : k < n) (hk : 0 < u k) : g = k := by
  rcases h with ⟨h1, h2⟩ | ⟨i, h1, h2, h3, h4, h5⟩
  · have := h2 k hn (by omega); omega
  · by_cases e : i = k
    · subst e; exact h2
    · have := h5 k (by omega) hn (by omega); omega
theorem prev_skip {u : Nat → Int} {n k : Nat} {g : Int} (h : Fen.Prev u n k g) (hk : u k = 0) : Fen.Prev u n ((k : Int) - 1) g := by
  rcases h with ⟨h1, h2⟩ | ⟨i, h1, h2, h3, h4, h5⟩
  · exact .inl ⟨h1, fun e he hx => h2 e he (by omega)⟩
  · refine .inr ⟨i, h1, h2, ?_, h4, fun e he hen hx => h5 e he hen (by omega)⟩
    by_cases e : i = k
    · subst e; omega
    · omega
theorem prev_end {u : Nat → Int} {n : Nat} {g : Int} (h : Fen.Prev u n (-1) g) : g = -1 := by
  rcases h with ⟨h1, h2⟩ | ⟨i, h1, h2, h3, h4, h5⟩
  · exact h1
  · omega
theorem prev_zero (u : Nat → Int) (x : Int) : Fen.Prev u 0 x (-1) := .inl ⟨rfl, fun e he _ => absurd he (Nat.not_lt_zero e)⟩
theorem prev_take {u : Nat → Int} {k : Nat} {x : Int} (hx : (k : Int) ≤ x) (hk : 0 < u k) : Fen.Prev u (k + 1) x k :=
  .inr ⟨k, by omega, rfl, hx, hk, fun e h1 h2 _ => by omega⟩
theorem prev_leave {u : Nat → Int} {k : Nat} {x g : Int} (h : Fen.Prev u k x g) (hk : x < k ∨ u k = 0) : Fen.Prev u (k + 1) x g := by
  have hz : (k : Int) ≤ x → u k = 0 := fun hle => by rcases hk with h1 | h1 <;> omega
  rcases h with ⟨h1, h2⟩ | ⟨i, h1, h2, h3, h4, h5⟩
  · refine .inl ⟨h1, fun e he hx => ?_⟩
    by_cases c : e = k
    · subst c; exact hz hx
    · exact h2 e (by omega) hx
  · refine .inr ⟨i, by omega, h2, h3, h4, fun e he hen hx => ?_⟩
    by_cases c : e = k
    · subst c; exact hz hx
    · exact h5 e he (by omega) hx

theorem uw_up {n : Nat} {wt : Nat → Int} {up : Nat → Bool} (h : Dom n wt) {e : Nat} (he : e < n) (hu : up e = true) : 0 < uw n wt up e := by
  unfold uw
  rw [if_pos ⟨he, hu⟩]
  have := h.1 e he
  omega
theorem uw_down {n : Nat} {wt : Nat → Int} {up : Nat → Bool} {e : Nat} (hu : up e = false) : uw n wt up e = 0 := by
  unfold uw
  rw [if_neg (by rw [hu]; simp)]

theorem entries_later {w w' : World} {a : Option Addr} {n : Nat} {wt : Nat → Int} {up : Nat → Bool} (h : Entries w a n wt up) (hb : Below w.heap.size w w') : Entries w' a n wt up := by
  intro e he
  obtain ⟨b, off, h1, h2, h3, h4, h5⟩ := h e he
  exact ⟨b, off, Nat.lt_of_lt_of_le h1 hb.size, h2, (hb.cell (p := ⟨b, off + e * 2, none⟩) h1).trans h3, (hb.cell (p := ⟨b, off + e * 2 + 1, none⟩) h1).trans h4, h5⟩

set_option maxHeartbeats 400000 in
theorem bytes7 (a : Option Addr) (n c : Nat) (i : Int) (w : World) (hn : n ≤ maxLen) : Calls Try.prog 7 #[.slice a n c, .int .i64 i] w (Answers True w) := by
  unfold maxLen at hn
  go_enter Try.func7, Try.ntmps7
  go_wp2
  · go_ret
    exact answers_no _ _
  · go_ret
    exact answers_yes trivial
set_option maxHeartbeats 400000 in
theorem bytes13 (a : Option Addr) (n c : Nat) (i : Int) (w : World) (hn : n ≤ maxLen) : Calls Try.prog 13 #[.slice a n c, .int .i64 i] w (Answers True w) := by
  unfold maxLen at hn
  go_enter Try.func13, Try.ntmps13
  go_wp2
  · go_ret
    exact answers_no _ _
  · go_ret
    exact answers_yes trivial
set_option maxHeartbeats 400000 in
theorem bytes11 (a : Option Addr) (n c : Nat) (w : World) (hn : n ≤ maxLen) : Calls Try.prog 11 #[.slice a n c] w (Answers True w) := by
  unfold maxLen at hn
  go_enter Try.func11, Try.ntmps11
  go_wp2
  · go_ret
    exact answers_no _ _
  · go_ret
    exact answers_yes trivial
set_option maxHeartbeats 400000 in
theorem bytes14 (a : Option Addr) (n c : Nat) (w : World) (hn : n ≤ maxLen) : Calls Try.prog 14 #[.slice a n c] w (Answers True w) := by
  unfold maxLen at hn
  go_enter Try.func14, Try.ntmps14
  go_wp2
  · go_ret
    exact answers_no _ _
  · go_ret
    exact answers_yes trivial
end Go.Proofs.Qxb6615931a.Us
