/-
  No cell of these rows narrows 'for every input' (looked for: loops, veiled, ifaces, maps, wideKeys, modest, calm, conditions, laid).
  DERIVED. THE GIVEN ROWS OF THIS SEAT. 4 by the template 'for every input the law returns true; each argument reads behind the call as it read before'; 0 by the template 'total and deterministic' (their statements: Qxb6615931aTotals.lean).
  GIVEN WITH THE SEED: the statements are not yours to turn. If you find one false, say at which input.
  Laid BY PROGRAM, IN A SANDBOX (cutbox-rows.mjs): the forced cells as the released guide's own fill.sh prints them over the translation 0016d762931a2059… (all of the seat's roots in one cut). By AI agents, Wed Nov 11 2026. No macro, syntax, notation, axiom, sorry.
-/
import Derived.Test.Qxb6615931aChecked
import GoSem.Claim
import GoSem.ClaimJoined
import GoSem.ClaimMapViews
import Derived.JoinedTies
import Derived.KernelRfl
namespace Go.Proofs.Qxb6615931a
/- THE CELL 'sum', in the pinned program and in every row, IS THE sha256 OF THE DUMP (.gsa) THAT Qxb6615931aProg.lean LOADS. Nothing in Lean hashes anything: it is a label: what it is worth is what the hold of that sum in a sandbox is worth. -/
noncomputable def Try.pinned : Pinned := { name := "qxb6615931a", sum := "0016d762931a20590813586f7ca28cd60b6f3d815d961455e0a8b74fc169e7a5", checked := Try.checked }
namespace Rows
def none {H : Type} : Left H := { results := [], args := [] }

/-- 'zzlaws_root_b1.FnUpSetNextIsFirstUpAtOrAfter': WHATEVER THE INPUT: true; the input reads as it did. -/
def fnUpSetNextIsFirstUpAtOrAfterSpec : ChangeSpec := { name := "fnUpSetNextIsFirstUpAtOrAfter", fn := fun _ => fun
  | [d1, d2] => { results := [.lit (.bool true)], args := [d1, d2] }
  | _ => none }
def fnUpSetNextIsFirstUpAtOrAfterRow : OpenClaim := { program := "qxb6615931a", sum := "0016d762931a20590813586f7ca28cd60b6f3d815d961455e0a8b74fc169e7a5", func := "example.com/pick2/pick2/zzlaws_root_b1.FnUpSetNextIsFirstUpAtOrAfter", spec := "fnUpSetNextIsFirstUpAtOrAfter", inPlace := ["sync/atomic.StoreInt64", "sync/atomic.StoreUint64", "sync/atomic.LoadUint64", "(*internal/sync.Mutex).Lock", "internal/race.Disable", "sync/atomic.CompareAndSwapInt32", "internal/race.Enable", "internal/race.Acquire", "(*internal/sync.Mutex).lockSlow", "internal/sync.runtime_canSpin", "internal/sync.runtime_doSpin", "internal/sync.throw", "internal/sync.runtime_nanotime", "internal/sync.runtime_SemacquireMutex", "sync/atomic.AddInt32", "(*internal/sync.Mutex).Unlock", "internal/race.ReleaseMerge", "(*internal/sync.Mutex).unlockSlow", "internal/sync.fatal", "internal/sync.runtime_Semrelease", "sync/atomic.LoadInt64"], unfollowed := true, recurses := true, apart := false }
def FnUpSetNextIsFirstUpAtOrAfterSaid : Prop := fnUpSetNextIsFirstUpAtOrAfterRow.holds Try.pinned (OpenSpec.ofChange fnUpSetNextIsFirstUpAtOrAfterSpec)

/-- ITS FALSE NEIGHBOUR: 'it returns false'. Refute it at one input. -/
def fnUpSetNextIsFirstUpAtOrAfterWrong : ChangeSpec := { name := "fnUpSetNextIsFirstUpAtOrAfter", fn := fun _ => fun
  | [d1, d2] => { results := [.lit (.bool false)], args := [d1, d2] }
  | _ => none }
def FnUpSetNextIsFirstUpAtOrAfterWrongFalsely : Prop := fnUpSetNextIsFirstUpAtOrAfterRow.holds Try.pinned (OpenSpec.ofChange fnUpSetNextIsFirstUpAtOrAfterWrong)

/-- 'zzlaws_root_b1.FnUpSetNextWalksTheUpEntriesInOrder': WHATEVER THE INPUT: true; the input reads as it did. -/
def fnUpSetNextWalksTheUpEntriesInOrderSpec : ChangeSpec := { name := "fnUpSetNextWalksTheUpEntriesInOrder", fn := fun _ => fun
  | [d] => { results := [.lit (.bool true)], args := [d] }
  | _ => none }
def fnUpSetNextWalksTheUpEntriesInOrderRow : OpenClaim := { program := "qxb6615931a", sum := "0016d762931a20590813586f7ca28cd60b6f3d815d961455e0a8b74fc169e7a5", func := "example.com/pick2/pick2/zzlaws_root_b1.FnUpSetNextWalksTheUpEntriesInOrder", spec := "fnUpSetNextWalksTheUpEntriesInOrder", inPlace := ["sync/atomic.StoreInt64", "sync/atomic.StoreUint64", "sync/atomic.LoadUint64", "(*internal/sync.Mutex).Lock", "internal/race.Disable", "sync/atomic.CompareAndSwapInt32", "internal/race.Enable", "internal/race.Acquire", "(*internal/sync.Mutex).lockSlow", "internal/sync.runtime_canSpin", "internal/sync.runtime_doSpin", "internal/sync.throw", "internal/sync.runtime_nanotime", "internal/sync.runtime_SemacquireMutex", "sync/atomic.AddInt32", "(*internal/sync.Mutex).Unlock", "internal/race.ReleaseMerge", "(*internal/sync.Mutex).unlockSlow", "internal/sync.fatal", "internal/sync.runtime_Semrelease", "sync/atomic.LoadInt64"], unfollowed := true, recurses := true, apart := false }
def FnUpSetNextWalksTheUpEntriesInOrderSaid : Prop := fnUpSetNextWalksTheUpEntriesInOrderRow.holds Try.pinned (OpenSpec.ofChange fnUpSetNextWalksTheUpEntriesInOrderSpec)

/-- ITS FALSE NEIGHBOUR: 'it returns false'. Refute it at one input. -/
def fnUpSetNextWalksTheUpEntriesInOrderWrong : ChangeSpec := { name := "fnUpSetNextWalksTheUpEntriesInOrder", fn := fun _ => fun
  | [d] => { results := [.lit (.bool false)], args := [d] }
  | _ => none }
def FnUpSetNextWalksTheUpEntriesInOrderWrongFalsely : Prop := fnUpSetNextWalksTheUpEntriesInOrderRow.holds Try.pinned (OpenSpec.ofChange fnUpSetNextWalksTheUpEntriesInOrderWrong)

/-- 'zzlaws_root_b1.FnUpSetPrevIsLastUpAtOrBefore': WHATEVER THE INPUT: true; the input reads as it did. -/
def fnUpSetPrevIsLastUpAtOrBeforeSpec : ChangeSpec := { name := "fnUpSetPrevIsLastUpAtOrBefore", fn := fun _ => fun
  | [d1, d2] => { results := [.lit (.bool true)], args := [d1, d2] }
  | _ => none }
def fnUpSetPrevIsLastUpAtOrBeforeRow : OpenClaim := { program := "qxb6615931a", sum := "0016d762931a20590813586f7ca28cd60b6f3d815d961455e0a8b74fc169e7a5", func := "example.com/pick2/pick2/zzlaws_root_b1.FnUpSetPrevIsLastUpAtOrBefore", spec := "fnUpSetPrevIsLastUpAtOrBefore", inPlace := ["sync/atomic.StoreInt64", "sync/atomic.StoreUint64", "sync/atomic.LoadUint64", "(*internal/sync.Mutex).Lock", "internal/race.Disable", "sync/atomic.CompareAndSwapInt32", "internal/race.Enable", "internal/race.Acquire", "(*internal/sync.Mutex).lockSlow", "internal/sync.runtime_canSpin", "internal/sync.runtime_doSpin", "internal/sync.throw", "internal/sync.runtime_nanotime", "internal/sync.runtime_SemacquireMutex", "sync/atomic.AddInt32", "(*internal/sync.Mutex).Unlock", "internal/race.ReleaseMerge", "(*internal/sync.Mutex).unlockSlow", "internal/sync.fatal", "internal/sync.runtime_Semrelease", "sync/atomic.LoadInt64"], unfollowed := true, recurses := true, apart := false }
def FnUpSetPrevIsLastUpAtOrBeforeSaid : Prop := fnUpSetPrevIsLastUpAtOrBeforeRow.holds Try.pinned (OpenSpec.ofChange fnUpSetPrevIsLastUpAtOrBeforeSpec)

/-- ITS FALSE NEIGHBOUR: 'it returns false'. Refute it at one input. -/
def fnUpSetPrevIsLastUpAtOrBeforeWrong : ChangeSpec := { name := "fnUpSetPrevIsLastUpAtOrBefore", fn := fun _ => fun
  | [d1, d2] => { results := [.lit (.bool false)], args := [d1, d2] }
  | _ => none }
def FnUpSetPrevIsLastUpAtOrBeforeWrongFalsely : Prop := fnUpSetPrevIsLastUpAtOrBeforeRow.holds Try.pinned (OpenSpec.ofChange fnUpSetPrevIsLastUpAtOrBeforeWrong)

/-- 'zzlaws_root_b1.FnUpSetPrevWalksTheUpEntriesBackwards': WHATEVER THE INPUT: true; the input reads as it did. -/
def fnUpSetPrevWalksTheUpEntriesBackwardsSpec : ChangeSpec := { name := "fnUpSetPrevWalksTheUpEntriesBackwards", fn := fun _ => fun
  | [d] => { results := [.lit (.bool true)], args := [d] }
  | _ => none }
def fnUpSetPrevWalksTheUpEntriesBackwardsRow : OpenClaim := { program := "qxb6615931a", sum := "0016d762931a20590813586f7ca28cd60b6f3d815d961455e0a8b74fc169e7a5", func := "example.com/pick2/pick2/zzlaws_root_b1.FnUpSetPrevWalksTheUpEntriesBackwards", spec := "fnUpSetPrevWalksTheUpEntriesBackwards", inPlace := ["sync/atomic.StoreInt64", "sync/atomic.StoreUint64", "sync/atomic.LoadUint64", "(*internal/sync.Mutex).Lock", "internal/race.Disable", "sync/atomic.CompareAndSwapInt32", "internal/race.Enable", "internal/race.Acquire", "(*internal/sync.Mutex).lockSlow", "internal/sync.runtime_canSpin", "internal/sync.runtime_doSpin", "internal/sync.throw", "internal/sync.runtime_nanotime", "internal/sync.runtime_SemacquireMutex", "sync/atomic.AddInt32", "(*internal/sync.Mutex).Unlock", "internal/race.ReleaseMerge", "(*internal/sync.Mutex).unlockSlow", "internal/sync.fatal", "internal/sync.runtime_Semrelease", "sync/atomic.LoadInt64"], unfollowed := true, recurses := true, apart := false }
def FnUpSetPrevWalksTheUpEntriesBackwardsSaid : Prop := fnUpSetPrevWalksTheUpEntriesBackwardsRow.holds Try.pinned (OpenSpec.ofChange fnUpSetPrevWalksTheUpEntriesBackwardsSpec)

/-- ITS FALSE NEIGHBOUR: 'it returns false'. Refute it at one input. -/
def fnUpSetPrevWalksTheUpEntriesBackwardsWrong : ChangeSpec := { name := "fnUpSetPrevWalksTheUpEntriesBackwards", fn := fun _ => fun
  | [d] => { results := [.lit (.bool false)], args := [d] }
  | _ => none }
def FnUpSetPrevWalksTheUpEntriesBackwardsWrongFalsely : Prop := fnUpSetPrevWalksTheUpEntriesBackwardsRow.holds Try.pinned (OpenSpec.ofChange fnUpSetPrevWalksTheUpEntriesBackwardsWrong)

end Rows
end Go.Proofs.Qxb6615931a
