/-
  THE WALK of (*Call).String, over the contract of strings.Join.
-/
import Derived.Test.Qxb6615922aMake
import Derived.Lib.Join
import Derived.Deep.RegionWith
namespace Go.Proofs.Qxb6615922a.Cs
open Go.RowKit

/-- What strings.Join's contract says at this program. -/
def JoinSaid : Prop := ∀ (bk o c : Nat) (xs : List ByteArray) (sep : ByteArray) (w : World),
    (∀ (j : Nat) x, xs[j]? = some x → w.cell? ⟨bk, o + j, none⟩ = some (.string x)) → bk < w.heap.size → xs.length ≤ 140737488355328 → xs.length ≤ c →
    (Lib.join (xs.map (·.data.toList)) sep.data.toList).length ≤ 140737488355328 →
    Calls Try.prog 21 #[.slice (some ⟨bk, o, none⟩) xs.length c, .string sep] w fun e w' => e = .returned (.string ⟨(Lib.join (xs.map (·.data.toList)) sep.data.toList).toArray⟩) ∧ Below w.heap.size w w'

/-- The call at B says t, in every world that is as w was below N. -/
def Says (N : Nat) (w : World) (B : Nat) (t : ByteArray) : Prop :=
  ∀ w', Below N w w' → N ≤ w'.heap.size → Calls Try.prog 11 #[.pointer (some ⟨B, 0, none⟩)] w' fun e w'' => e = .returned (.string t) ∧ Below w'.heap.size w' w''

theorem hide {p : Prop} (h : p) : Hid p := h

/-- The text of a call. -/
def text (fn : ByteArray) (ts : List ByteArray) : ByteArray := fn ++ ⟨#[40]⟩ ++ ⟨(Lib.join (ts.map (·.data.toList)) [44, 32]).toArray⟩ ++ ⟨#[41]⟩

theorem method_String (a : Addr) (w : World) : (method 360 27 (.pointer (some a)) "String").run Try.prog w = .ok (11, .pointer (some a)) w := by kernel_rfl

/-- After k rounds the row of texts, at w.heap.size, holds the first k. -/
def Gath (w : World) (n : Nat) (ts : List ByteArray) (k : Nat) (wr : World) : Prop :=
  Below w.heap.size w wr ∧ w.heap.size < wr.heap.size ∧ ∃ arr : Array Value, arr.size = n ∧ wr.heap[w.heap.size]? = some (.cells arr 9 (0, 0)) ∧ ∀ i x, i < k → ts[i]? = some x → arr[i]? = some (.string x)

theorem gath_start (w : World) (n : Nat) (ts : List ByteArray) : Gath w n ts 0 (w.alloc (.cells (madeCells #[.string ⟨#[]⟩] n) 9)) :=
  ⟨(Below.refl _ _).alloc (Nat.le_refl _) _, by simp, _, size_madeCells _ _, heap_new _ _, fun i x hi => absurd hi (Nat.not_lt_zero _)⟩

theorem gath_over {w wr w2 : World} {n k : Nat} {ts : List ByteArray} (h : Gath w n ts k wr) (hb : Below wr.heap.size wr w2) : Gath w n ts k w2 := by
  obtain ⟨h1, h2, arr, h3, h4, h5⟩ := h
  have := hb.size
  exact ⟨h1.trans (hb.mono (by omega)), by omega, arr, h3, (hb.block _ h2).trans h4, h5⟩

theorem gath_step {w wr : World} {n k : Nat} {ts : List ByteArray} (h : Gath w n ts k wr) (hk : k < n) {x : ByteArray} (hx : ts[k]? = some x) :
    Gath w n ts (k + 1) (wr.setCell ⟨w.heap.size, k, none⟩ (.string x)) := by
  obtain ⟨h1, h2, arr, h3, h4, h5⟩ := h
  refine ⟨h1.setCell (Nat.le_refl _) _, by simpa [World.setCell] using h2, arr.setIfInBounds k (.string x), by simpa using h3, heap_setCell_same _ _ _ _ _ _ h4, ?_⟩
  intro i y hi hy
  rw [Array.getElem?_setIfInBounds]
  by_cases he : k = i
  · subst he
    rw [hx] at hy; cases hy
    rw [if_pos rfl, if_pos (by omega)]
  · rw [if_neg he]
    exact h5 i y (by omega) hy

set_option maxRecDepth 100000 in
set_option maxHeartbeats 400000 in
theorem str_of (hJ : JoinSaid) (w : World) (N B n : Nat) (fn : ByteArray) (av : Option Addr) (c : Nat) (ts : List ByteArray) (hl : ts.length = n) (hn : n ≤ 4096) (hB : B < N)
    (c0 : w.cell? ⟨B, 0, none⟩ = some (.string fn)) (c1 : w.cell? ⟨B, 1, none⟩ = some (.slice av n c))
    (hC : ∀ i x, ts[i]? = some x → ∃ C D, C < N ∧ av = some ⟨C, 0, none⟩ ∧ w.cell? ⟨C, i, none⟩ = some (.iface 27 (.pointer (some ⟨D, 0, none⟩))) ∧ Says N w D x)
    (hsz : fn.size + (Lib.join (ts.map (·.data.toList)) [44, 32]).length + 2 ≤ 140737488355328) : Says N w B (text fn ts) := by
  intro w' hb hN
  have d0 : w'.cell? ⟨B, 0, none⟩ = some (.string fn) := (hb.cell (p := ⟨B, 0, none⟩) hB).trans c0
  have d1 : w'.cell? ⟨B, 1, none⟩ = some (.slice av n c) := (hb.cell (p := ⟨B, 1, none⟩) hB).trans c1
  have hBw : B < w'.heap.size := by omega
  have hmk := make_strings n (by omega)
  have HL : Hid (ts.length = n) := hl
  clear hl c0 c1
  go_enter Try.func11, Try.ntmps11
  go_wp2_with fail
  go_loopw [17] (fun i wr => ∃ k : Nat, k ≤ n ∧ i = .int .i64 k ∧ Gath w' n ts k wr) (fun i _ => n - (intOf i).toNat)
  case atStart => exact ⟨0, Nat.zero_le _, rfl, gath_start w' n ts⟩
  case round =>
    obtain ⟨k, hk, rfl, hg⟩ := hrel
    have HG : Hid (Gath w' n ts k wr) := hg
    by_cases hlt : k < n
    · have hk2 : k < ts.length := by have := HL.out; omega
      have HX : Hid (ts[k]? = some ts[k]) := List.getElem?_eq_getElem hk2
      generalize ts[k] = x at HX
      obtain ⟨C, Dk, hCN, ha, g1, hS⟩ := hC k x HX.out
      subst ha
      clear hC
      obtain ⟨h1, h2, arr, h3, h4, h5⟩ := hg
      have g2 : wr.cell? ⟨C, k, none⟩ = some (.iface 27 (.pointer (some ⟨Dk, 0, none⟩))) := (h1.cell (p := ⟨C, k, none⟩) (by exact Nat.lt_of_lt_of_le hCN hN)).trans ((hb.cell (p := ⟨C, k, none⟩) hCN).trans g1)
      have hbw : Below N w wr := hb.trans (h1.mono hN)
      have hSw := hS wr hbw (by omega)
      have HS := hide hSw
      clear hS hSw g1 h3 h4 h5 hk2
      have hme := method_String
      go_wp2_with fail
      refine HS.out.mono ?_
      rintro e w2 ⟨rfl, hb2⟩
      have HG2 : Hid (Gath w' n ts k w2) := gath_over HG.out hb2
      obtain ⟨old, g3⟩ : ∃ v, w2.cell? ⟨w'.heap.size, k, none⟩ = some v := by
        obtain ⟨_, _, arr, h3, h4, _⟩ := HG2.out
        exact ⟨arr[k], by rw [cell_at h4 k]; simp⟩
      have g4 : w2.frozen? ⟨w'.heap.size, k, none⟩ = false := by
        obtain ⟨_, _, arr, h3, h4, _⟩ := HG2.out
        exact frozen_of_row _ _ _ _ _ h4
      clear h1 h2 g2 hbw HS hb2
      go_wp2_with fail
      go_roundw
      case rel => exact ⟨k + 1, by omega, by go_num, gath_step HG2.out hlt HX.out⟩
      case measure => simp [intOf]; omega
    · have hkn : k = n := by omega
      subst hkn
      have h1 := HG.out.1
      have h2 := HG.out.2.1
      have e0 : wr.cell? ⟨B, 0, none⟩ = some (.string fn) := (h1.cell (p := ⟨B, 0, none⟩) hBw).trans d0
      have HJ : Hid (∀ W, Below wr.heap.size wr W → Calls Try.prog 21 #[.slice (some ⟨w'.heap.size, 0, none⟩) k k, .string ⟨#[44, 32]⟩] W fun e w'' =>
          e = .returned (.string ⟨(Lib.join (ts.map (·.data.toList)) [44, 32]).toArray⟩) ∧ Below W.heap.size W w'') := by
        intro W hW
        obtain ⟨_, _, arr, h3, h4, h5⟩ := HG.out
        have := hJ w'.heap.size 0 k ts ⟨#[44, 32]⟩ W (fun j y hy => by
          have hjk : j < k := by have := HL.out; have := (List.getElem?_eq_some_iff.1 hy).1; omega
          rw [hW.cell (p := ⟨w'.heap.size, 0 + j, none⟩) h2, Nat.zero_add, cell_at h4 j]
          exact h5 j y hjk hy) (Nat.lt_of_lt_of_le h2 hW.size) (by have := HL.out; omega) (by have := HL.out; omega) (by show (Lib.join _ [44, 32]).length ≤ _; omega)
        rw [HL.out] at this
        exact this
      have hjs : fn.size + (ByteArray.mk (Lib.join (ts.map (·.data.toList)) [44, 32]).toArray).size + 2 ≤ 140737488355328 := by
        have : (ByteArray.mk (Lib.join (ts.map (·.data.toList)) [44, 32]).toArray).size = (Lib.join (ts.map (·.data.toList)) [44, 32]).length := by simp [ByteArray.size]
        rw [this]; exact hsz
      generalize hJe : (ByteArray.mk (Lib.join (ts.map (·.data.toList)) [44, 32]).toArray) = J at *
      have HE : Hid (text fn ts = fn ++ ⟨#[40]⟩ ++ J ++ ⟨#[41]⟩) := by rw [text, hJe]; rfl
      clear hJe
      have hBr : B < wr.heap.size := by omega
      have HB1 : Hid (Below w'.heap.size w' wr) := h1
      clear d0 d1 hC hsz h1
      go_wp2_with fail
      go_region_with (go_at_call 21; refine (HJ.out _ ?_).mono ?_; first | exact Below.refl _ _ | exact (Below.refl _ _).drew; rintro e w2 ⟨rfl, hb2⟩; have hc2 := hb2.cell (p := ⟨B, 0, none⟩) hBr)
      all_goals
        go_wp2
        go_ret
        refine ⟨?_, ?_⟩
        · exact (congrArg (fun t => Ending.returned (.string t)) HE.out).symm
        · exact (HB1.out.drew).trans (hb2.mono (by exact Nat.le_of_lt h2))
end Go.Proofs.Qxb6615922a.Cs
