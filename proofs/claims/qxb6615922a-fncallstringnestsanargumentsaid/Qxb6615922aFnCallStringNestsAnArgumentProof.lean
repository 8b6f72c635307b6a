/-
  THE PROOF OF 'Rows.FnCallStringNestsAnArgumentSaid': the frame after the skeleton tool's, for a slice of strings; the walks lie in Qxb6615922aNestWalk.lean and Qxb6615922aNestNil.lean.
-/
import Derived.Test.Qxb6615922aRows
import Derived.Test.Qxb6615922aNestNil
import Derived.ProofKit
import Derived.OpenShut
import Derived.ShutString
import Derived.ChangeOld
import Derived.Below
import Derived.SliceStrings
namespace Go.Proofs.Qxb6615922a.fnCallStringNestsAnArgument
open Go.ChangeShapes Go.WideShapes Go.ChangeAt Go.RowKit
open Go.ChangeMaps (open_string shut_string)
set_option linter.unusedVariables false

theorem own : ownKnob Try.prog.godebug = none := by kernel_rfl
theorem laidOut : laidOutB Try.prog = true := by kernel_rfl

/-- What the walk is told of a slice of strings that came in: it is nil; or it leads to a row of cells that hold its strings. -/
def IsRow (w : World) (a : Option Addr) (len cap : Nat) (ss : Nat → ByteArray) : Prop :=
  (a = none ∧ len = 0 ∧ cap = 0) ∨
  ∃ x, a = some x ∧ len ≤ maxLen ∧ (∀ j, j < len → ∃ b off, b < w.heap.size ∧ x = ⟨b, off, none⟩ ∧ w.cell? ⟨b, off + j, none⟩ = some (.string (ss j))) ∧ ∀ j, j < len → (ss j).size ≤ maxLen

theorem walk (a0 a1 : ByteArray) (a2 : Option Addr) (len2 cap2 : Nat) (s2 : Nat → ByteArray) (w : World) (w0 : a0.size ≤ maxLen) (w1 : a1.size ≤ maxLen) (w2 : IsRow w a2 len2 cap2 s2) :
    Calls Try.prog 6 #[.string a0, .string a1, .slice a2 len2 cap2] w fun e w' => e = .returned (.bool true) ∧ Below w.heap.size w w' := by
  rcases w2 with ⟨rfl, rfl, rfl⟩ | ⟨x, rfl, hl, hc, hs⟩
  · exact Cs.nest_nil a0 a1 w w0 w1
  · exact Cs.nest_some a0 a1 x len2 cap2 s2 w w0 w1 hl hc hs

theorem row_of {w : World} {x : Addr} {len cap : Nat} {ss : List ByteArray} (hl : len ≤ cap) (hm : cap ≤ maxLen) (hz : ss.length = cap) (hcell : ∀ i, i < ss.length → w.cell? (x.add i) = some (.string (ss.getD i ByteArray.empty))) (hs : ∀ s ∈ ss, s.size ≤ maxLen) :
    IsRow w (some x) len cap (fun j => ss.getD j ByteArray.empty) := by
  refine .inr ⟨x, rfl, Nat.le_trans hl hm, fun j hj => ?_, fun j hj => ?_⟩
  · obtain ⟨b, off, spot⟩ := x
    have h0 : w.cell? ⟨b, off, spot⟩ = some (.string (ss.getD 0 ByteArray.empty)) := by simpa [Addr.add] using hcell 0 (by omega)
    have hsp : spot = none := World.cell?_spot h0
    subst hsp
    have hj' := hcell j (by omega)
    refine ⟨b, off, block_lt_of_cell h0, rfl, ?_⟩
    unfold Addr.add at hj'
    split at hj'
    · rename_i h; subst h; simpa using hj'
    · exact hj'
  · have hj' : j < ss.length := by omega
    show (ss.getD j ByteArray.empty).size ≤ maxLen
    rw [List.getD_eq_getElem?_getD, List.getElem?_eq_getElem hj']
    exact hs _ (List.getElem_mem hj')

/-! ### THE ROW's STEP -/
set_option maxRecDepth 100000 in
theorem lifted (os : Os) (started : os.Started) (H : Type) (enc : TypeId × Value → H) :
    ReturnsInHanded {} Try.checked os 6 .any (Rows.fnCallStringNestsAnArgumentSpec.pre6 enc Try.prog Try.f6 Rows.fnCallStringNestsAnArgumentRow.domain false) (Rows.fnCallStringNestsAnArgumentSpec.post enc Try.prog Try.f6 false true false false) := by
  refine returnsInHanded_of_change (C := Try.checked) own started (by kernel_rfl) Try.func6
    (ChangeSpec.witness6 (enc := enc) (C := Try.checked) false ⟨#[], #[.string ByteArray.empty, .string ByteArray.empty, .slice none 0 0], []⟩ 8 (by kernel_rfl) (by kernel_rfl) (by kernel_rfl) (by kernel_rfl)) ?_
  intro W base args ds gs before hval0 hW hcnd _
  have hval : ∀ (j : Nat) t v, Try.f6.params[j]? = some t → args[j]? = some v → Value.okWide Try.prog W .any base t v := hval0
  have hW' := hW
  obtain ⟨p, q, hA0, hV, rfl, hfz, hnd⟩ := hW
  have hA : DataW.TrodAll enc Try.prog W 0 (fun _ => true) true Try.f6.params.toList args.toList ds p := hA0
  rw [Try.params6] at hA hval
  obtain ⟨v0, vs0, d0, ds0, p0, q0, hargs, rfl, rfl, h0, r0⟩ := trodAll_cons hA
  obtain ⟨v1, vs1, d1, ds1, p1, q1, rfl, rfl, rfl, h1, r1⟩ := trodAll_cons r0
  obtain ⟨v2, vs2, d2, ds2, p2, q2, rfl, rfl, rfl, h2, r2⟩ := trodAll_cons r1
  obtain ⟨rfl, rfl, rfl⟩ := trodAll_nil r2
  obtain rfl : args = #[v0, v1, v2] := by cases args; simp_all
  obtain ⟨rfl, rfl⟩ := trodVars_none hV
  obtain ⟨a0, rfl, rfl, rfl, w0⟩ := open_string Try.underlying9 (hval 0 9 v0 rfl rfl) h0
  obtain ⟨a1, rfl, rfl, rfl, w1⟩ := open_string Try.underlying9 (hval 1 9 v1 rfl rfl) h1
  obtain ⟨a2, len2, cap2, rfl⟩ := okWide_slice Try.underlying25 (hval 2 25 v2 rfl rfl)
  have k2 := h2
  have lt2 : ∀ x ∈ p2, x.block < W.heap.size := by obtain ⟨m, hm⟩ := k2; exact DataW.trod_lt m _ _ _ hm
  obtain ⟨s2, w2⟩ : ∃ ss, IsRow W a2 len2 cap2 ss := by
    obtain ⟨fuel, hf⟩ := h2
    rcases open_strings Try.underlying25 Try.underlying9 (by kernel_rfl) hf with ⟨hcs, _⟩ | ⟨x, l, c, ss, hcs, _, hl, hm, hz, _, hcell, hwz⟩
    · simp [Value.cells] at hcs
      obtain ⟨rfl, rfl, rfl⟩ := hcs
      exact ⟨fun _ => ByteArray.empty, .inl ⟨rfl, rfl, rfl⟩⟩
    · simp [Value.cells] at hcs
      obtain ⟨rfl, rfl, rfl⟩ := hcs
      exact ⟨_, row_of hl hm (by simpa using hz) hcell hwz⟩
  clear hA0 hval0
  refine (walk a0 a1 a2 len2 cap2 s2 W w0 w1 w2).mono fun e W' ⟨he, bel⟩ => ?_
  subst he
  exact ⟨_, rfl, _, _, _, [], _, [], hW', trodAll_mk1 (shut_bool Try.underlying4 _), (trodAll_cons_mk (shut_string Try.underlying9 w0) (trodAll_cons_mk (shut_string Try.underlying9 w1) (trodAll_cons_mk (Below.trod laidOut (by kernel_rfl) (of_decide_eq_true (by kernel_rfl)) k2 bel lt2) trodAll_mk0))), rfl, bel.frame _, fun h => by cases h⟩

theorem over : Rows.fnCallStringNestsAnArgumentRow.holds Try.pinned (OpenSpec.ofChange Rows.fnCallStringNestsAnArgumentSpec) :=
  OpenClaim.holds_of_wide 6 Try.f6 rfl rfl rfl rfl rfl rfl rfl ⟨rfl, rfl, rfl, rfl, rfl⟩ rfl rfl rfl rfl rfl (by kernel_rfl) Try.func6 (by kernel_rfl)
    (of_decide_eq_true (by kernel_rfl)) (by unfold Func.isWrapper; first | (rw [if_pos (by decide +kernel)]; kernel_rfl) | (rw [if_neg (by decide +kernel)]; exact ⟨rfl, rfl⟩))
    (fun os started H enc _ => lifted os started H enc)

/-- THE STATEMENT. -/
theorem proved : Rows.FnCallStringNestsAnArgumentSaid := over
end Go.Proofs.Qxb6615922a.fnCallStringNestsAnArgument
