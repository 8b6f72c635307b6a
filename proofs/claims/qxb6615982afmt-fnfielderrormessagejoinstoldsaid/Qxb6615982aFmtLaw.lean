/-
  THE WALK of FnFieldErrorMessageJoins, fmt's text told.
-/
import Derived.Test.Qxb6615982aFmtText
namespace Go.Proofs.Qxb6615982aFmt.Fx
open Go.RowKit Go.Extern.Stop Go.Stop Go.Extern Go.Kit

theorem heap_new (w : World) (o : Obj) : (w.alloc o).heap[w.heap.size]? = some o := (MapKept.heap_alloc w _).1

set_option maxRecDepth 100000 in
set_option maxHeartbeats 400000 in
theorem text5 (p m : ByteArray) (l : Int) (T : ByteArray) (w : World)
    (H : ∀ W, Below w.heap.size w W → ∀ B E, W.heap[B]? = some (.cells #[.string p, .int .i64 l, .iface 31 (.pointer (some ⟨E, 0, none⟩))] 29 (0, 0)) → W.heap[E]? = some (.cells #[.string m] 33 (0, 0)) →
      Calls Tryf.prog 7 #[.pointer (some ⟨B, 0, none⟩)] W fun e w' => e = .returned (.string T) ∧ Below W.heap.size W w') :
    Calls Tryf.prog 5 #[.string p, .int .i64 l, .string m] w fun e w' => e = .returned (.string T) ∧ Below w.heap.size w w' := by
  have HH := hide H
  clear H
  go_enter Tryf.func5, Tryf.ntmps5
  go_wp2_with (go_at_call 6; go_in)
  refine (HH.out _ (((Below.refl _ _).alloc (Nat.le_refl _) _).alloc (by simp) _) (w.heap.size + 1) w.heap.size ?_ ?_).mono ?_
  · have := heap_new (w.alloc (.cells #[.string m] 33)) (.cells #[.string p, .int .i64 l, .iface 31 (.pointer (some ⟨w.heap.size, 0, none⟩))] 29)
    rwa [World.size_alloc] at this
  · rw [Below.heap_alloc _ _ _ (by simp)]; exact heap_new _ _
  rintro e w2 ⟨rfl, hb⟩
  have HB := hide hb
  clear hb
  go_wp2_with fail
  go_ret
  exact ⟨rfl, (((Below.refl _ _).alloc (Nat.le_refl _) _).alloc (by simp) _).trans (HB.out.mono (by simp; omega))⟩

theorem cell_at {w : World} {B : Nat} {c : Array Value} {t : TypeId} (h : w.heap[B]? = some (.cells c t (0, 0))) (i : Nat) : w.cell? ⟨B, i, none⟩ = c[i]? := by
  unfold World.cell?
  simp [h]
theorem lt_of_heap {w : World} {B : Nat} {o : Obj} (h : w.heap[B]? = some o) : B < w.heap.size := (Array.getElem?_eq_some_iff.1 h).1
theorem answers_later {F : Interp} {w W : World} (h : F.answers w.tape) (hb : Below w.heap.size w W) : F.answers W.tape := by rw [hb.tape]; exact h

/-- The message. -/
def msg (p m : ByteArray) (l : Int) : ByteArray := ⟨(headT p.data.toList l ++ m.data.toList).toArray⟩
theorem empty_iff (p : ByteArray) : p.data.toList = [] ↔ p = ⟨#[]⟩ := by
  constructor
  · intro h; apply ByteArray.ext; simpa using h
  · intro h; rw [h]
theorem isEmpty_false {p : ByteArray} (h : ¬ p = ⟨#[]⟩) : p.toList.isEmpty = false := by
  rw [ByteArray.toList_eq]
  cases hp : p.data.toList with
  | nil => exact absurd ((empty_iff p).1 hp) h
  | cons a t => rfl

/-- 'ZZfieldErrorText': the head, then the error's own text. -/
theorem told5 (F : Interp) (p m : ByteArray) (l : Int) (w : World) (hF : F.told.answers w.tape) (hw : (Lit.int .i64 l).wf = true) (hp : p.size ≤ 1048576) (hm : m.size ≤ 1048576) :
    Calls Tryf.prog 5 #[.string p, .int .i64 l, .string m] w fun e w' => e = .returned (.string (msg p m l)) ∧ Below w.heap.size w w' := by
  have hp' : p.data.toList.length ≤ 1048576 := by rw [Array.length_toList]; exact hp
  have hm' : m.data.toList.length ≤ 1048576 := by rw [Array.length_toList]; exact hm
  have hi := FmtText.itoa_length_le hw
  refine text5 p m l _ w fun W hb B E cB cE => ?_
  have h0 := cell_at cB 0
  have h1 := cell_at cB 1
  have h2 := cell_at cB 2
  have hE := cell_at cE 0
  have hB := lt_of_heap cB
  have hFW := answers_later hF hb
  by_cases c1 : l = 0
  · subst c1
    by_cases c2 : p = ⟨#[]⟩
    · subst c2
      have e : msg ⟨#[]⟩ m 0 = m := by
        apply ByteArray.ext
        simp [msg, headT]
      rw [e]
      refine (error_N B E m W h0 h1 h2 hE).mono ?_
      rintro e w' ⟨rfl, rfl⟩
      exact ⟨rfl, Below.refl _ _⟩
    · have e : msg p m 0 = ⟨(p.data.toList ++ [58, 32] ++ m.data.toList).toArray⟩ := by
        have : ¬ p.data.toList = [] := fun h => c2 ((empty_iff p).1 h)
        unfold msg headT
        rw [if_pos rfl, if_neg this]
      rw [e, ← told_bytes F (textP p.data.toList m.data.toList (by omega)) (by simp only [List.length_append, List.length_cons, List.length_nil]; omega)]
      exact error_P F.told B ⟨E, 0, none⟩ p m W hFW hB h0 h1 h2 hE (isEmpty_false c2)
  · have hl : (l == 0) = false := by rw [beq_eq_false_iff_ne]; exact c1
    by_cases c2 : p = ⟨#[]⟩
    · subst c2
      have e : msg ⟨#[]⟩ m l = ⟨([108, 105, 110, 101, 32] ++ Lib.itoa l ++ [58, 32] ++ m.data.toList).toArray⟩ := by
        unfold msg headT
        rw [if_neg c1, if_pos rfl]
      rw [e, ← told_bytes F (textL l m.data.toList hw) (by simp only [List.length_append, List.length_cons, List.length_nil]; omega)]
      exact error_L F.told B ⟨E, 0, none⟩ l m W hFW hB h0 h1 h2 hE hl
    · have e : msg p m l = ⟨(p.data.toList ++ [32, 40, 108, 105, 110, 101, 32] ++ Lib.itoa l ++ [41, 58, 32] ++ m.data.toList).toArray⟩ := by
        have : ¬ p.data.toList = [] := fun h => c2 ((empty_iff p).1 h)
        unfold msg headT
        rw [if_neg c1, if_neg this]
      rw [e, ← told_bytes F (textB p.data.toList l m.data.toList (by omega) hw) (by simp only [List.length_append, List.length_cons, List.length_nil]; omega)]
      exact error_B F.told B ⟨E, 0, none⟩ p l m W hFW hB h0 h1 h2 hE hl (isEmpty_false c2)

/-- THE PLAIN LAW. -/
theorem msg_joins (p m1 m2 : ByteArray) (l : Int) : msg p (m1 ++ m2) l = msg p m1 l ++ m2 := by
  apply ByteArray.ext
  simp [msg, ByteArray.data_append]
theorem msg_bare (m : ByteArray) : msg ⟨#[]⟩ m 0 = m := by
  apply ByteArray.ext
  simp [msg, headT]
theorem size_msg (p m : ByteArray) (l : Int) (hw : (Lit.int .i64 l).wf = true) : (msg p m l).size ≤ p.size + m.size + 40 := by
  have hi := FmtText.itoa_length_le hw
  have e1 : (msg p m l).size = (headT p.data.toList l).length + m.size := by
    show (headT p.data.toList l ++ m.data.toList).toArray.size = _
    rw [List.size_toArray, List.length_append]; rfl
  have e2 : p.data.toList.length = p.size := Array.length_toList
  have e3 : (headT p.data.toList l).length ≤ p.size + 40 := by
    unfold headT
    split
    · split
      · simp
      · simp only [List.length_append, List.length_cons, List.length_nil]; omega
    · split <;> simp only [List.length_append, List.length_cons, List.length_nil] <;> omega
  omega

def Answers (w : World) (e : Ending) (w' : World) : Prop := ∃ r, e = .returned (.bool r) ∧ w' = w
theorem answers (w : World) (r : Bool) : Answers w (.returned (.bool r)) w := ⟨r, rfl, rfl⟩

set_option maxHeartbeats 400000 in
theorem bytes4 (p m1 m2 : ByteArray) (l : Int) (w : World) (hp : p.size ≤ maxLen) (h1 : m1.size ≤ maxLen) (h2 : m2.size ≤ maxLen) :
    Calls Tryf.prog 4 #[.string p, .int .i64 l, .string m1, .string m2] w (Answers w) := by
  unfold maxLen at *
  go_enter Tryf.func4, Tryf.ntmps4
  go_wp2
  all_goals
    go_ret
    exact answers _ _

set_option maxRecDepth 100000 in
set_option maxHeartbeats 1000000 in
theorem law (F : Interp) (p m1 m2 : ByteArray) (l : Int) (w : World) (hF : F.told.answers w.tape) (hw : (Lit.int .i64 l).wf = true) (hp : p.size ≤ maxLen) (h1 : m1.size ≤ maxLen) (h2 : m2.size ≤ maxLen) :
    Calls Tryf.prog 3 #[.string p, .int .i64 l, .string m1, .string m2] w fun e w' => e = .returned (.bool true) ∧ Below w.heap.size w w' := by
  have HB := hide (bytes4 p m1 m2 l w hp h1 h2)
  have HF := hide hF
  have HWF := hide hw
  clear hF hw
  unfold maxLen at hp h1 h2
  go_enter Tryf.func3, Tryf.ntmps3
  go_wp2_with fail
  refine HB.out.mono ?_
  rintro e w' ⟨r, rfl, rfl⟩
  clear HB
  cases r with
  | false =>
    go_wp2_with fail
    go_ret
    exact ⟨rfl, Below.refl _ _⟩
  | true =>
    by_cases g1 : (65536 : Int) < p.size
    · go_wp2_with fail
      go_ret
      exact ⟨rfl, Below.refl _ _⟩
    by_cases g2 : (65536 : Int) < m1.size
    · go_wp2_with fail
      go_ret
      exact ⟨rfl, Below.refl _ _⟩
    by_cases g3 : (65536 : Int) < m2.size
    · go_wp2_with fail
      go_ret
      exact ⟨rfl, Below.refl _ _⟩
    have HM1 : Hid (m1.size ≤ 1048576 ∧ p.size ≤ 1048576 ∧ (m1 ++ m2).size ≤ 1048576) := ⟨by omega, by omega, by rw [ByteArray.size_append]; omega⟩
    have HT0 := hide (told5 F ⟨#[]⟩ m1 0 w' HF.out (by decide) (by simp [ByteArray.size]) HM1.out.1)
    rw [msg_bare] at HT0
    go_wp2_with fail
    refine HT0.out.mono ?_
    rintro e w2 ⟨rfl, hb2⟩
    have HB2 := hide hb2
    have HF2 := hide (answers_later HF.out hb2)
    clear hb2 HF HT0
    go_wp2_with fail
    refine (told5 F p (m1 ++ m2) l w2 HF2.out HWF.out HM1.out.2.1 HM1.out.2.2).mono ?_
    rintro e w3 ⟨rfl, hb3⟩
    have HB3 := hide (HB2.out.trans (hb3.mono HB2.out.size))
    have HF3 := hide (answers_later HF2.out hb3)
    clear hb3 HF2 HB2
    rw [msg_joins]
    go_wp2_with fail
    refine (told5 F p m1 l w3 HF3.out HWF.out HM1.out.2.1 HM1.out.1).mono ?_
    rintro e w4 ⟨rfl, hb4⟩
    have HB4 := hide (HB3.out.trans (hb4.mono HB3.out.size))
    clear hb4 HF3 HB3
    have hsz : ((msg p m1 l).size : Int) ≤ 200000 := by have := size_msg p m1 l HWF.out; omega
    generalize msg p m1 l = T at *
    go_wp2_with fail
    go_ret
    refine ⟨?_, HB4.out⟩
    simp
end Go.Proofs.Qxb6615982aFmt.Fx
