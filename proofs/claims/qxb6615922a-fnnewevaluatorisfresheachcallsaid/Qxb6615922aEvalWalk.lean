/-
  THE WALKS for FnNewEvaluatorIsFreshEachCall: the makers of a store, an engine, an evaluator.
-/
import Derived.Test.Qxb6615922aProg
import Derived.WalkKit
import Derived.WalkSpells
import Derived.WalkLawsBesides
import Derived.LaidEqlPtr
namespace Go.Proofs.Qxb6615922a.Ev
open Go.RowKit

theorem grown_trans {a b c : World} (h : Grown a b) (k : Grown b c) : Grown a c :=
  ⟨World.keptBut_trans h.1 k.1, fun x => (k.2.1 x).trans (h.2.1 x), Nat.le_trans h.2.2 k.2.2⟩

/-- 'p != p' of a pointer to a type that has cells: false. -/
theorem run_neq_ptr_same {P : Program} (w : World) {tp te : TypeId} {j : TypeInfo} (a : Addr) (hp : P.underlying tp = some (.pointer te)) (hte : P.info? te = some j) :
    (binOp .neq tp (.pointer (some a)) (.pointer (some a))).run P w = .ok (.bool false) w := by
  have h : ∀ d : Nat, (Op.equalIn (d + 1) tp (.pointer (some a)) (.pointer (some a))).run P w = .ok true w := fun d => by
    simp [Op.equalIn, run_underlying hp, sizeOf, typeInfo, hte, run_sameAddr_same]
  simp only [binOp]
  simp [Op.equal, Op.maxDepth, h 9999]

theorem heap_new (w : World) (o : Obj) : (w.alloc o).heap[w.heap.size]? = some o := (MapKept.heap_alloc w _).1
theorem heap_new2 (w : World) (o o2 : Obj) : ((w.alloc o).alloc o2).heap[w.heap.size]? = some o := by
  rw [Below.heap_alloc _ _ _ (by simp)]; exact heap_new w o
theorem heap_new1 (w : World) (o o2 : Obj) : ((w.alloc o).alloc o2).heap[w.heap.size + 1]? = some o2 := by
  have := heap_new (w.alloc o) o2; simpa using this

set_option maxHeartbeats 400000 in
/-- 'newEvaluator': a new map, and a new evaluator that holds the engine and that map. -/
theorem new_eval (a : Addr) (w : World) : Calls Try.prog 16 #[.pointer (some a)] w fun e w' =>
    ∃ B, e = .returned (.pointer (some ⟨B + 1, 0, none⟩)) ∧ w.heap.size ≤ B ∧ B + 2 ≤ w'.heap.size ∧ w'.heap[B]? = some (.map #[] 0) ∧ w'.heap[B + 1]? = some (.cells #[.pointer (some a), .map (some B)] 58 (0, 0)) ∧ Grown w w' ∧ Below w.heap.size w w' := by
  have hmm := @run_makeMap Try.prog
  go_enter Try.func16, Try.ntmps16
  go_wp2
  go_ret
  refine ⟨w.heap.size, rfl, Nat.le_refl _, by simp, heap_new2 _ _ _, heap_new1 _ _ _, ((Grown.refl _).allocMap _ _).alloc _ _, ((Below.refl _ _).alloc (Nat.le_refl _) _).alloc (by simp) _⟩

set_option maxHeartbeats 400000 in
/-- 'ZZNewEngineInMemory': a new engine whose lookback is in milliseconds. -/
theorem new_engine (a : Int) (w : World) (h1 : -9223372036854775808 ≤ a) (h2 : a ≤ 9223372036854775807) : Calls Try.prog 15 #[.int .i64 a] w fun e w' =>
    ∃ B v, e = .returned (.pointer (some ⟨B, 0, none⟩)) ∧ w.heap.size ≤ B ∧ B + 1 ≤ w'.heap.size ∧ w'.heap[B]? = some (.cells #[v, .int .i64 (a.tdiv 1000000)] 60 (0, 0)) ∧ Grown w w' ∧ Below w.heap.size w w' := by
  have hmm := @run_makeMap Try.prog
  go_enter Try.func15, Try.ntmps15
  go_wp2
  go_ret
  refine ⟨w.heap.size + 1 + 1, .pointer (some ⟨w.heap.size + 1, 0, none⟩), rfl, by omega, by simp, ?_, (((Grown.refl _).allocMap _ _).alloc _ _).alloc _ _, (((Below.refl _ _).alloc (Nat.le_refl _) _).alloc (by simp) _).alloc (by simp; omega) _⟩
  have := heap_new1 (w.alloc (.map #[] 0)) (.cells #[.int .i32 0, .int .u32 0, .pointer none, .pointer none, .int .u64 1, .int .i32 0, .int .u32 0, .int .u32 0, .int .u32 0, .int .i32 0, .int .i32 0, .map (some w.heap.size)] 89) (.cells #[.pointer (some ⟨w.heap.size + 1, 0, none⟩), .int .i64 (a.tdiv 1000000)] 60)
  rw [World.size_alloc] at this
  exact this

theorem info60 : ∃ j, Try.prog.info? 60 = some j ∧ j.size ≠ 0 := by
  have h : (Try.prog.info? 60).map (fun i => decide (i.size = 0)) = some false := by kernel_rfl
  obtain ⟨i, hi, hz⟩ := Option.map_eq_some_iff.1 h
  exact ⟨i, hi, by simpa using hz⟩
theorem info58 : ∃ j, Try.prog.info? 58 = some j ∧ j.size ≠ 0 := by
  have h : (Try.prog.info? 58).map (fun i => decide (i.size = 0)) = some false := by kernel_rfl
  obtain ⟨i, hi, hz⟩ := Option.map_eq_some_iff.1 h
  exact ⟨i, hi, by simpa using hz⟩

theorem engines_differ (w : World) {a b : Nat} {ca cb : Array Value} {ta tb : TypeId} (hne : a ≠ b) (ha : w.heap[a]? = some (.cells ca ta (0, 0))) (hb : w.heap[b]? = some (.cells cb tb (0, 0))) :
    (binOp .eql 34 (.pointer (some ⟨a, 0, none⟩)) (.pointer (some ⟨b, 0, none⟩))).run Try.prog w = .ok (.bool false) w := by
  obtain ⟨j, hj, hz⟩ := info60
  exact run_eql_ptr_other w Try.underlying34 hj hz (by intro h; have := congrArg Addr.block h; exact hne this) ha hb
theorem evals_differ (w : World) {a b : Nat} {ca cb : Array Value} {ta tb : TypeId} (hne : a ≠ b) (ha : w.heap[a]? = some (.cells ca ta (0, 0))) (hb : w.heap[b]? = some (.cells cb tb (0, 0))) :
    (binOp .eql 36 (.pointer (some ⟨a, 0, none⟩)) (.pointer (some ⟨b, 0, none⟩))).run Try.prog w = .ok (.bool false) w := by
  obtain ⟨j, hj, hz⟩ := info58
  exact run_eql_ptr_other w Try.underlying36 hj hz (by intro h; have := congrArg Addr.block h; exact hne this) ha hb
theorem engine_same (w : World) (a : Addr) : (binOp .neq 34 (.pointer (some a)) (.pointer (some a))).run Try.prog w = .ok (.bool false) w := by
  obtain ⟨j, hj, _⟩ := info60
  exact run_neq_ptr_same w a Try.underlying34 hj

theorem cell_at {w : World} {B : Nat} {c : Array Value} {t : TypeId} (h : w.heap[B]? = some (.cells c t (0, 0))) (i : Nat) : w.cell? ⟨B, i, none⟩ = c[i]? := by
  unfold World.cell?
  simp [h]

set_option maxRecDepth 100000 in
set_option maxHeartbeats 1000000 in
theorem law (a b : Int) (w : World) (ha1 : -9223372036854775808 ≤ a) (ha2 : a ≤ 9223372036854775807) (hb1 : -9223372036854775808 ≤ b) (hb2 : b ≤ 9223372036854775807) :
    Calls Try.prog 7 #[.int .i64 a, .int .i64 b] w fun e w' => e = .returned (.bool true) ∧ Grown w w' := by
  go_enter Try.func7, Try.ntmps7
  go_wp2_with fail
  refine (new_engine a _ ha1 ha2).mono ?_
  rintro e w1 ⟨E1, v1, rfl, hE1, hz1, he1, hg1, hl1⟩
  go_wp2_with fail
  refine (new_engine b _ hb1 hb2).mono ?_
  rintro e w2 ⟨E2, v2, rfl, hE2, hz2, he2, hg2, hl2⟩
  have he1' := (hl2.block E1 (by omega)).trans he1
  have hg02 := grown_trans hg1 hg2
  have hE12 : E1 ≠ E2 := by omega
  have hq12 := engines_differ w2 hE12 he1' he2
  clear hg1 hg2 hl1 hl2 he1
  go_wp2_with fail
  refine (new_eval ⟨E1, 0, none⟩ _).mono ?_
  rintro e w3 ⟨B1, rfl, hB1, hz3, hm3, hc3, hg3, hl3⟩
  have he13 := (hl3.block E1 (by omega)).trans he1'
  have he23 := (hl3.block E2 (by omega)).trans he2
  have hg03 := grown_trans hg02 hg3
  clear hg3 hl3 hg02 he1' he2 hq12
  go_wp2_with fail
  refine (new_eval ⟨E1, 0, none⟩ _).mono ?_
  rintro e w4 ⟨B2, rfl, hB2, hz4, hm4, hc4, hg4, hl4⟩
  have he14 := (hl4.block E1 (by omega)).trans he13
  have he24 := (hl4.block E2 (by omega)).trans he23
  have hm34 := (hl4.block B1 (by omega)).trans hm3
  have hc34 := (hl4.block (B1 + 1) (by omega)).trans hc3
  have hg04 := grown_trans hg03 hg4
  clear hg4 hl4 hg03 he13 he23 hm3 hc3
  go_wp2_with fail
  refine (new_eval ⟨E2, 0, none⟩ _).mono ?_
  rintro e w5 ⟨B3, rfl, hB3, hz5, hm5, hc5, hg5, hl5⟩
  have he15 := (hl5.block E1 (by omega)).trans he14
  have he25 := (hl5.block E2 (by omega)).trans he24
  have hm35 := (hl5.block B1 (by omega)).trans hm34
  have hc35 := (hl5.block (B1 + 1) (by omega)).trans hc34
  have hm45 := (hl5.block B2 (by omega)).trans hm4
  have hc45 := (hl5.block (B2 + 1) (by omega)).trans hc4
  have hg05 := grown_trans hg04 hg5
  clear hg5 hl5 hg04 he14 he24 hm34 hc34 hm4 hc4
  have q12 := evals_differ w5 (show B1 + 1 ≠ B2 + 1 by omega) hc35 hc45
  have q13 := evals_differ w5 (show B1 + 1 ≠ B3 + 1 by omega) hc35 hc5
  have q23 := evals_differ w5 (show B2 + 1 ≠ B3 + 1 by omega) hc45 hc5
  have qs := engine_same w5
  have f1e : w5.cell? ⟨B1 + 1, 0, none⟩ = some (.pointer (some ⟨E1, 0, none⟩)) := cell_at hc35 0
  have f1m : w5.cell? ⟨B1 + 1, 1, none⟩ = some (.map (some B1)) := cell_at hc35 1
  have f2e : w5.cell? ⟨B2 + 1, 0, none⟩ = some (.pointer (some ⟨E1, 0, none⟩)) := cell_at hc45 0
  have f2m : w5.cell? ⟨B2 + 1, 1, none⟩ = some (.map (some B2)) := cell_at hc45 1
  have f3e : w5.cell? ⟨B3 + 1, 0, none⟩ = some (.pointer (some ⟨E2, 0, none⟩)) := cell_at hc5 0
  have f3m : w5.cell? ⟨B3 + 1, 1, none⟩ = some (.map (some B3)) := cell_at hc5 1
  have g1 : w5.cell? ⟨E1, 1, none⟩ = some (.int .i64 (a.tdiv 1000000)) := cell_at he15 1
  have g2 : w5.cell? ⟨E2, 1, none⟩ = some (.int .i64 (b.tdiv 1000000)) := cell_at he25 1
  have hm := fun r => run_eql_map_nil (P := Try.prog) w5 39 _ _ r Try.underlying39
  clear he15 he25 hc35 hc45 hc5
  have n1 : (Builtin.len_ #[39] 3 #[.map (some B1)]).run Try.prog w5 = .ok (.int .i64 0) w5 := run_len_map w5 39 3 B1 #[] 0 (by kernel_rfl) hm35
  have n2 : (Builtin.len_ #[39] 3 #[.map (some B2)]).run Try.prog w5 = .ok (.int .i64 0) w5 := run_len_map w5 39 3 B2 #[] 0 (by kernel_rfl) hm45
  have n3 : (Builtin.len_ #[39] 3 #[.map (some B3)]).run Try.prog w5 = .ok (.int .i64 0) w5 := run_len_map w5 39 3 B3 #[] 0 (by kernel_rfl) hm5
  clear hm35 hm45 hm5
  go_wp2
  go_ret
  exact ⟨rfl, hg05⟩
end Go.Proofs.Qxb6615922a.Ev
