/-
  A SLICE OF ENTRIES THAT CAME IN: what the walks are told of it.
-/
import Derived.Test.Qxb6615931aDomain
import Derived.Deep.SlicePairs
import Derived.ProofKit
import Derived.OpenShut
namespace Go.Proofs.Qxb6615931a.Us
open Go.RowKit Go.ChangeShapes Go.WideShapes

def boolOf : Value → Bool | .bool b => b | _ => false

theorem open_entries {H : Type} {enc : TypeId × Value → H} {W : World} {fuel : Nat} {a : Option Addr} {len cap : Nat} {x : DataW H × List MemPlace}
    (hf : DataW.trod enc Try.prog W 0 (fun _ => true) true fuel 22 [.slice a len cap] = some x) : len ≤ maxLen ∧ ∃ wt up, Entries W a len wt up := by
  rcases Go.Deep.open_slice_pairs Try.underlying22 Try.underlying29 (by kernel_rfl) rfl rfl (by kernel_rfl) (by kernel_rfl) hf with ⟨hcs, _⟩ | ⟨y, l, c, m, n, V0, V1, D0, D1, P0, P1, hcs, _, hl, hm, hmm, _, hx⟩
  · simp at hcs
    obtain ⟨rfl, rfl, rfl⟩ := hcs
    exact ⟨Nat.zero_le _, fun _ => 0, fun _ => false, fun e he => absurd he (Nat.not_lt_zero e)⟩
  · simp at hcs
    obtain ⟨rfl, rfl, rfl⟩ := hcs
    simp only [if_true] at hmm
    subst hmm
    refine ⟨Nat.le_trans hl hm, fun i => intOf (V0 i), fun i => boolOf (V1 i), fun e he => ?_⟩
    obtain ⟨h1, h2, h3, h4⟩ := hx e (by omega)
    have h00 := (hx 0 (by omega)).1
    obtain ⟨b, off, spot⟩ := y
    have hsp : spot = none := World.cell?_spot (by simpa [Addr.add] using h00)
    subst hsp
    obtain ⟨v, e1, _, wf⟩ := DataW.trod_int Try.underlying2 h3
    obtain ⟨q, e2, _⟩ := DataW.trod_bool Try.underlying4 h4
    simp at e1 e2
    have bd := bounds_i64 wf
    have ad : ∀ i, (⟨b, off, none⟩ : Addr).add i = ⟨b, off + i, none⟩ := fun i => by
      unfold Addr.add
      split
      · rename_i h; subst h; rfl
      · rfl
    rw [ad] at h1 h2
    refine ⟨b, off, block_lt_of_cell h1, rfl, ?_, ?_, ?_⟩
    · show W.cell? ⟨b, off + e * 2, none⟩ = some (.int .i64 (intOf (V0 e)))
      rw [h1, e1]; rfl
    · show W.cell? ⟨b, off + e * 2 + 1, none⟩ = some (.bool (boolOf (V1 e)))
      rw [Nat.add_assoc, h2, e2]; rfl
    · show -9223372036854775808 ≤ intOf (V0 e) ∧ intOf (V0 e) ≤ 9223372036854775807
      rw [e1]; exact bd
end Go.Proofs.Qxb6615931a.Us
