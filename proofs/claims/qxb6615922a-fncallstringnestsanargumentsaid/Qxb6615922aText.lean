/-
  THE TEXT OF A CALL: plain lemmas; what the calls that ZZNewCallOfNames and ZZNewCallOfOne make say.
-/
import Derived.Test.Qxb6615922aString
import Derived.Test.Qxb6615922aShelf
import Derived.Deep.WholeRow
import Derived.Laws.CopyRow
namespace Go.Proofs.Qxb6615922a.Cs
open Go.RowKit

theorem join_here : JoinSaid := fun bk o c xs sep w h1 h2 h3 h4 h5 => Try.strings_Join bk o c xs sep w h1 h2 h3 h4 h5

/-- The bytes between the brackets. -/
def mid (ts : List ByteArray) : ByteArray := ⟨(Lib.join (ts.map (·.data.toList)) [44, 32]).toArray⟩
theorem text_mid (fn : ByteArray) (ts : List ByteArray) : text fn ts = fn ++ ⟨#[40]⟩ ++ mid ts ++ ⟨#[41]⟩ := rfl
theorem size_mid (ts : List ByteArray) : (mid ts).size = (Lib.join (ts.map (·.data.toList)) [44, 32]).length := by simp [mid, ByteArray.size]
theorem text_nil (fn : ByteArray) : text fn [] = fn ++ ⟨#[40]⟩ ++ ⟨#[41]⟩ := by
  rw [text_mid]
  have : mid [] = ByteArray.empty := rfl
  rw [this, ByteArray.append_empty]
theorem size_text (fn : ByteArray) (ts : List ByteArray) : (text fn ts).size = fn.size + (mid ts).size + 2 := by
  rw [text_mid, ByteArray.size_append, ByteArray.size_append, ByteArray.size_append]
  have h1 : (ByteArray.mk #[40]).size = 1 := rfl
  have h2 : (ByteArray.mk #[41]).size = 1 := rfl
  omega

/-- The arguments' texts. -/
def leaves (ss : Nat → ByteArray) (n : Nat) : List ByteArray := (List.range n).map fun i => text (ss i) []
theorem length_leaves (ss : Nat → ByteArray) (n : Nat) : (leaves ss n).length = n := by simp [leaves]

def tot2 (ss : Nat → ByteArray) : Nat → Nat
  | 0 => 0
  | k + 1 => tot2 ss k + ((ss k).size + 2)
def tot16 (ss : Nat → ByteArray) : Nat → Nat
  | 0 => 0
  | k + 1 => tot16 ss k + ((ss k).size + 16)
theorem tot2_le (ss : Nat → ByteArray) (n : Nat) : tot2 ss n + 14 * n ≤ tot16 ss n := by
  induction n with
  | zero => simp [tot2, tot16]
  | succ n ih => simp only [tot2, tot16]; omega

theorem lens_append (a b : List (List UInt8)) : Lib.lens (a ++ b) = Lib.lens a + Lib.lens b := by simp [Lib.lens]
theorem lens_leaves (ss : Nat → ByteArray) (n : Nat) : Lib.lens ((leaves ss n).map (·.data.toList)) = tot2 ss n := by
  induction n with
  | zero => simp [leaves, Lib.lens, tot2]
  | succ n ih =>
    have e : leaves ss (n + 1) = leaves ss n ++ [text (ss n) []] := by simp [leaves, List.range_succ]
    rw [e, List.map_append, lens_append, ih]
    have h1 : (text (ss n) []).data.toList.length = (ss n).size + 2 := by
      have := size_text (ss n) []
      have h0 : (mid []).size = 0 := rfl
      simp only [ByteArray.size, Array.length_toList] at *
      omega
    simp [Lib.lens, tot2, h1]

theorem length_join (xs : List (List UInt8)) : (Lib.join xs [44, 32]).length = Lib.lens xs + 2 * (xs.length - 1) := by
  cases xs with
  | nil => simp [Lib.join_nil, Lib.lens]
  | cons x r =>
    rw [Lib.join_cons, List.length_append, Lib.joinTail_length]
    simp [Lib.lens]
    omega

theorem size_mid_leaves (ss : Nat → ByteArray) (n : Nat) : (mid (leaves ss n)).size = tot2 ss n + 2 * (n - 1) := by
  rw [size_mid, length_join, lens_leaves, List.length_map, length_leaves]

theorem joinTail_append (sep : List UInt8) (a b : List (List UInt8)) : Lib.joinTail sep (a ++ b) = Lib.joinTail sep a ++ Lib.joinTail sep b := by simp [Lib.joinTail]

theorem join_append (sep : List UInt8) (a b : List (List UInt8)) (ha : a ≠ []) (hb : b ≠ []) : Lib.join (a ++ b) sep = Lib.join a sep ++ sep ++ Lib.join b sep := by
  cases a with
  | nil => exact absurd rfl ha
  | cons x r =>
    cases b with
    | nil => exact absurd rfl hb
    | cons y r' =>
      rw [List.cons_append, Lib.join_cons, Lib.join_cons, Lib.join_cons, joinTail_append]
      simp [Lib.joinTail, List.append_assoc]

theorem leaves_split (ss : Nat → ByteArray) (n k : Nat) (hk : k ≤ n) : leaves ss n = leaves ss k ++ leaves (fun j => ss (k + j)) (n - k) := by
  obtain ⟨d, rfl⟩ : ∃ d, n = k + d := ⟨n - k, by omega⟩
  have : k + d - k = d := by omega
  rw [this]
  simp [leaves, List.range_add]

/-- THE PLAIN LAW OF THE CUT. -/
theorem mid_both (ss : Nat → ByteArray) (n k : Nat) (h0 : 0 < k) (hk : k < n) : mid (leaves ss n) = mid (leaves ss k) ++ ⟨#[44, 32]⟩ ++ mid (leaves (fun j => ss (k + j)) (n - k)) := by
  have ha : leaves ss k ≠ [] := by intro h; have := congrArg List.length h; rw [length_leaves] at this; simp at this; omega
  have hb : leaves (fun j => ss (k + j)) (n - k) ≠ [] := by intro h; have := congrArg List.length h; rw [length_leaves] at this; simp at this; omega
  unfold mid
  rw [leaves_split ss n k (by omega), List.map_append, join_append _ _ _ (by simpa using ha) (by simpa using hb)]
  apply ByteArray.ext
  simp [ByteArray.data_append]
theorem mid_none (ss : Nat → ByteArray) : mid (leaves ss 0) = ByteArray.empty := rfl

/-! ### What the calls say -/
theorem leaf_says {w : World} {N D : Nat} {s : ByteArray} (h : Leaf w D s) (hD : D < N) (hs : s.size ≤ 1048576) : Says N w D (text s []) := by
  refine str_of join_here w N D 0 s none 0 [] rfl (by omega) hD (cell_at h 0) (cell_at h 1) (fun i x hx => by simp at hx) ?_
  simp [Lib.join_nil]; omega

theorem call1_says {w : World} {base B : Nat} {fn : ByteArray} {n : Nat} {ss : Nat → ByteArray} (h : Call1 w base B fn n ss) (hn : n ≤ 4096) (hs : ∀ i, i < n → (ss i).size ≤ 1048576) (hz : fn.size + tot16 ss n ≤ 1048576) :
    Says w.heap.size w B (text fn (leaves ss n)) := by
  obtain ⟨C, arr, h1, h2, h3, h4, h5, h6, h7, h8⟩ := h
  have hm := size_mid_leaves ss n
  have ht := tot2_le ss n
  rw [size_mid] at hm
  refine str_of join_here w w.heap.size B n fn (some ⟨C, 0, none⟩) n (leaves ss n) (length_leaves ss n) hn h3 (cell_at h5 0) (cell_at h5 1) (fun i x hx => ?_) (by rw [hm]; omega)
  have hi : i < n := by have := (List.getElem?_eq_some_iff.1 hx).1; rw [length_leaves] at this; exact this
  obtain ⟨D, d1, d2, d3, d4⟩ := h8 i hi
  have hx' : x = text (ss i) [] := by
    have : (leaves ss n)[i]? = some (text (ss i) []) := by simp [leaves, hi]
    rw [this] at hx; exact (Option.some.inj hx).symm
  subst hx'
  exact ⟨C, D, h4, rfl, by rw [cell_at h7 i]; exact d3, leaf_says d4 d2 (hs i hi)⟩

/-- A call whose one argument says t. -/
theorem one_says {w : World} {N B C D : Nat} {fn t : ByteArray} (hB : B < N) (hC : C < N) (c0 : w.cell? ⟨B, 0, none⟩ = some (.string fn)) (c1 : w.cell? ⟨B, 1, none⟩ = some (.slice (some ⟨C, 0, none⟩) 1 1))
    (c2 : w.cell? ⟨C, 0, none⟩ = some (.iface 27 (.pointer (some ⟨D, 0, none⟩)))) (hS : Says N w D t) (hz : fn.size + t.size ≤ 16777216) : Says N w B (fn ++ ⟨#[40]⟩ ++ t ++ ⟨#[41]⟩) := by
  have e : text fn [t] = fn ++ ⟨#[40]⟩ ++ t ++ ⟨#[41]⟩ := by
    rw [text_mid]
    have : mid [t] = t := by unfold mid; simp [Lib.join_one]
    rw [this]
  rw [← e]
  refine str_of join_here w N B 1 fn (some ⟨C, 0, none⟩) 1 [t] rfl (by omega) hB c0 c1 (fun i x hx => ?_) ?_
  · match i, hx with
    | 0, hx => simp at hx; subst hx; exact ⟨C, D, hC, rfl, c2, hS⟩
  · have : (Lib.join ([t].map (·.data.toList)) [44, 32]).length = t.size := by
      show (Lib.join [t.data.toList] [44, 32]).length = _
      rw [Lib.join_one]; exact Array.length_toList
    rw [this]; omega

/-- 'zzc := make([]string, len(names)); copy(zzc, names)'. -/
theorem copy_names (w : World) (a : Addr) (n c : Nat) (ss : Nat → ByteArray) (hc : ∀ j, j < n → w.cell? (a.add j) = some (.string (ss j))) :
    (Builtin.copy_ #[25, 25] 3 #[.slice (some ⟨w.heap.size, 0, none⟩) n n, .slice (some a) n c]).run Try.prog (w.alloc (.cells (madeCells #[.string ⟨#[]⟩] n) 9)) =
      .ok (.int .i64 (n : Int)) (w.alloc (.cells ((List.range n).map fun i => Value.string (ss i)).toArray 9)) := by
  have hl : ((List.range n).map fun i => Value.string (ss i)).length = n := by simp
  have := run_copy_row (P := Try.prog) (w.alloc (.cells (madeCells #[.string ⟨#[]⟩] n) 9)) 25 25 3 9 w.heap.size 0 n n a n c _ 9 ((List.range n).map fun i => Value.string (ss i)) Try.underlying25 (by kernel_rfl)
    (heap_new _ _) (by rw [hl]; exact (Nat.min_self n).symm) (fun j v hj => by
      have hjn : j < n := by have := (List.getElem?_eq_some_iff.1 hj).1; rwa [hl] at this
      have hv : v = .string (ss j) := by simp [hjn] at hj; exact hj.symm
      subst hv
      exact cell_later ((Below.refl w.heap.size w).alloc (Nat.le_refl _) _) (hc j hjn)) (by simp [size_madeCells]) (fun v hv => by simp at hv; obtain ⟨i, _, rfl⟩ := hv; rfl)
  rw [World.setRow_alloc_new, hl] at this
  rw [this]
  have e : (madeCells #[Value.string ⟨#[]⟩] n).toList.drop (0 + n) = [] := by apply List.drop_of_length_le; simp [size_madeCells]
  rw [e]
  simp [goInt]
end Go.Proofs.Qxb6615922a.Cs
