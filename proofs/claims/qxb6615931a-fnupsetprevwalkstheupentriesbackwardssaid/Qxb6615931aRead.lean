/-
  THE WALKS for upSet: read; next; prev.
-/
import Derived.Test.Qxb6615931aLoad
import Derived.Defers
namespace Go.Proofs.Qxb6615931a.Us
open Go.RowKit

set_option maxHeartbeats 400000 in
theorem read_next (w : World) (B n e R : Nat) (u : Nat → Int) (h : UpAt w B n e u R) (x : Int) :
    Calls Try.prog 20 #[.pointer (some ⟨B, 0, none⟩), .int .i64 x, .func (.func 21) #[] #[]] w fun e w' => ∃ g, e = .returned (.int .i64 g) ∧ Fen.Next u n x g ∧ w' = w := by
  have hbit : bits .and .u64 0 1 = 0 := by decide
  go_enter_defers Try.func20, Try.ntmps20
  go_wp2_with fail
  go_loop [9] (fun i => i = .int .i64 0) (fun _ => 0)
  case atStart => rfl
  case round =>
    obtain rfl := hrel
    go_wp2_with fail
    refine (load_u _ _ _ _ h.version).mono ?_
    rintro e w' ⟨rfl, rfl⟩
    go_wp2_with fail
    refine (next_now _ B n e R u h x).mono ?_
    rintro e w' ⟨g, rfl, hg, rfl⟩
    have HG := hide hg
    clear hg
    go_wp2_with fail
    refine (load_u _ _ _ _ h.version).mono ?_
    rintro e w' ⟨rfl, rfl⟩
    go_wp2_with fail
    exact ⟨_, results_tmp rfl _ _ _, g, rfl, HG.out, rfl⟩

set_option maxHeartbeats 400000 in
theorem read_prev (w : World) (B n e R : Nat) (u : Nat → Int) (h : UpAt w B n e u R) (x : Int) (hx : x < n) (hx0 : -9223372036854775808 ≤ x) :
    Calls Try.prog 20 #[.pointer (some ⟨B, 0, none⟩), .int .i64 x, .func (.func 22) #[] #[]] w fun e w' => ∃ g, e = .returned (.int .i64 g) ∧ Fen.Prev u n x g ∧ w' = w := by
  have hbit : bits .and .u64 0 1 = 0 := by decide
  go_enter_defers Try.func20, Try.ntmps20
  go_wp2_with fail
  go_loop [9] (fun i => i = .int .i64 0) (fun _ => 0)
  case atStart => rfl
  case round =>
    obtain rfl := hrel
    go_wp2_with fail
    refine (load_u _ _ _ _ h.version).mono ?_
    rintro e w' ⟨rfl, rfl⟩
    go_wp2_with fail
    refine (prev_now _ B n e R u h x hx hx0).mono ?_
    rintro e w' ⟨g, rfl, hg, rfl⟩
    have HG := hide hg
    clear hg
    go_wp2_with fail
    refine (load_u _ _ _ _ h.version).mono ?_
    rintro e w' ⟨rfl, rfl⟩
    go_wp2_with fail
    exact ⟨_, results_tmp rfl _ _ _, g, rfl, HG.out, rfl⟩

set_option maxHeartbeats 400000 in
theorem up_next0 (w : World) (B n e R : Nat) (u : Nat → Int) (h : UpAt w B n e u R) (x : Int) :
    Calls Try.prog 16 #[.pointer (some ⟨B, 0, none⟩), .int .i64 x] w fun e w' => ∃ g, e = .returned (.int .i64 g) ∧ Fen.Next u n x g ∧ w' = w := by
  go_enter Try.func16, Try.ntmps16
  go_wp2_with fail
  refine (read_next _ B n e R u h x).mono ?_
  rintro e w' ⟨g, rfl, hg, rfl⟩
  have HG := hide hg
  clear hg
  go_wp2_with fail
  go_ret
  exact ⟨g, rfl, HG.out, rfl⟩

set_option maxHeartbeats 400000 in
theorem up_prev0 (w : World) (B n e R : Nat) (u : Nat → Int) (h : UpAt w B n e u R) (x : Int) (hx : x < n) (hx0 : -9223372036854775808 ≤ x) :
    Calls Try.prog 17 #[.pointer (some ⟨B, 0, none⟩), .int .i64 x] w fun e w' => ∃ g, e = .returned (.int .i64 g) ∧ Fen.Prev u n x g ∧ w' = w := by
  go_enter Try.func17, Try.ntmps17
  go_wp2_with fail
  refine (read_prev _ B n e R u h x hx hx0).mono ?_
  rintro e w' ⟨g, rfl, hg, rfl⟩
  have HG := hide hg
  clear hg
  go_wp2_with fail
  go_ret
  exact ⟨g, rfl, HG.out, rfl⟩

set_option maxHeartbeats 400000 in
theorem up_next (w : World) (B n e R : Nat) (u : Nat → Int) (h : UpAt w B n e u R) (x : Int) :
    Calls Try.prog 10 #[.pointer (some ⟨B, 0, none⟩), .int .i64 x] w fun e w' => ∃ g, e = .returned (.int .i64 g) ∧ Fen.Next u n x g ∧ w' = w := by
  go_enter Try.func10, Try.ntmps10
  go_wp2_with fail
  refine (up_next0 _ B n e R u h x).mono ?_
  rintro e w' ⟨g, rfl, hg, rfl⟩
  have HG := hide hg
  clear hg
  go_wp2_with fail
  go_ret
  exact ⟨g, rfl, HG.out, rfl⟩

set_option maxHeartbeats 400000 in
theorem up_prev (w : World) (B n e R : Nat) (u : Nat → Int) (h : UpAt w B n e u R) (x : Int) (hx : x < n) (hx0 : -9223372036854775808 ≤ x) :
    Calls Try.prog 12 #[.pointer (some ⟨B, 0, none⟩), .int .i64 x] w fun e w' => ∃ g, e = .returned (.int .i64 g) ∧ Fen.Prev u n x g ∧ w' = w := by
  go_enter Try.func12, Try.ntmps12
  go_wp2_with fail
  refine (up_prev0 _ B n e R u h x hx hx0).mono ?_
  rintro e w' ⟨g, rfl, hg, rfl⟩
  have HG := hide hg
  clear hg
  go_wp2_with fail
  go_ret
  exact ⟨g, rfl, HG.out, rfl⟩

end Go.Proofs.Qxb6615931a.Us
