/-
  THE WALKS for the two laws on Call.String: zzInner; ZZNewCallOfOne.
-/
import Derived.Test.Qxb6615922aProg
import Derived.WalkKit
import Derived.WalkSpells
import Derived.WalkLawsBesides
namespace Go.Proofs.Qxb6615922a.Cs
open Go.RowKit

set_option maxHeartbeats 400000 in
theorem inner_at (s o : ByteArray) (w : World) (hs : s.size ≤ maxLen) (hl : o.size + 1 ≤ s.size) (ho : (s.extract 0 o.size).toList = o.toList) (hz : (s[s.size - 1]'(by omega)).toNat = 41) :
    Calls Try.prog 12 #[.string s, .string o] w fun e w' => e = .returned (.tuple #[.string (s.extract o.size (s.size - 1)), .bool true]) ∧ w' = w := by
  unfold maxLen at hs
  go_enter Try.func12, Try.ntmps12
  go_wp2
  go_ret2
  exact ⟨rfl, rfl⟩

/-- zzInner at a text that is made of 'open', a middle and a closing bracket: the middle, and true. -/
theorem inner (s o m : ByteArray) (hsm : s = o ++ m ++ ⟨#[41]⟩) (w : World) (hs : s.size ≤ maxLen) :
    Calls Try.prog 12 #[.string s, .string o] w fun e w' => e = .returned (.tuple #[.string m, .bool true]) ∧ w' = w := by
  have hz : s.size = o.size + m.size + 1 := by rw [hsm, ByteArray.size_append, ByteArray.size_append]; rfl
  have e1 : s.extract 0 o.size = o := by
    rw [hsm, ByteArray.append_assoc]
    exact ByteArray.extract_append_eq_left rfl
  have e2 : s.extract o.size (s.size - 1) = m := by
    have : s.size - 1 = o.size + m.size := by omega
    rw [this, hsm]
    apply ByteArray.ext
    simp [ByteArray.data_extract, ByteArray.data_append]
  have e3 : (s[s.size - 1]'(by omega)).toNat = 41 := by
    subst hsm
    rw [ByteArray.getElem_append_right (by rw [hz, ByteArray.size_append]; omega)]
    have : ∀ (i : Nat) (h : i < (ByteArray.mk #[41]).size), i = 0 → ((ByteArray.mk #[41])[i]'h).toNat = 41 := by intro i h hi; subst hi; rfl
    exact this _ _ (by rw [hz, ByteArray.size_append]; omega)
  refine (inner_at s o w hs (by omega) (by rw [e1]) e3).mono ?_
  rintro e w' ⟨rfl, rfl⟩
  rw [e2]
  exact ⟨rfl, rfl⟩

set_option maxHeartbeats 400000 in
theorem call_of_one (fn : ByteArray) (a : Addr) (w : World) :
    Calls Try.prog 14 #[.string fn, .pointer (some a)] w fun e w' => e = .returned (.pointer (some ⟨w.heap.size + 1, 0, none⟩)) ∧ w' = (w.alloc (.cells #[.iface 27 (.pointer (some a))] 50)).alloc (.cells #[.string fn, .slice (some ⟨w.heap.size, 0, none⟩) 1 1, .string ⟨#[]⟩] 48) := by
  go_enter Try.func14, Try.ntmps14
  go_wp2
  go_ret
  exact ⟨rfl, rfl⟩
end Go.Proofs.Qxb6615922a.Cs
