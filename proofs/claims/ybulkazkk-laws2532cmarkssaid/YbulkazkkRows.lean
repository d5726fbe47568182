/-
  No cell of these rows narrows 'for every input' (looked for: loops, veiled, ifaces, maps, wideKeys, modest, calm, conditions, laid).
  DERIVED. THE GIVEN ROWS OF THIS SEAT. 5 by the template 'for every input the law returns true; each argument reads behind the call as it read before'; 0 by the template 'total and deterministic' (their statements: YbulkazkkTotals.lean).
  GIVEN WITH THE SEED: the statements are not yours to turn. If you find one false, say at which input.
  Laid BY PROGRAM, IN A SANDBOX (cutbox-rows.mjs): the forced cells as the released guide's own fill.sh prints them over the translation 20bfeeea461de8c4… (all of the seat's roots in one cut). By AI agents, Wed Nov 11 2026. No macro, syntax, notation, axiom, sorry.
-/
import Derived.Test.YbulkazkkChecked
import GoSem.Claim
import GoSem.ClaimJoined
import GoSem.ClaimMapViews
import Derived.JoinedTies
import Derived.KernelRfl
namespace Go.Proofs.Ybulkazkk
/- THE CELL 'sum', in the pinned program and in every row, IS THE sha256 OF THE DUMP (.gsa) THAT YbulkazkkProg.lean LOADS. Nothing in Lean hashes anything: it is a label: what it is worth is what the hold of that sum in a sandbox is worth. -/
noncomputable def Yba.pinned : Pinned := { name := "ybulkazkk", sum := "20bfeeea461de8c4b88bd95cde0d4f47a9f2beae7b7d25f1253b2236f03c004c", checked := Yba.checked }
namespace Rows
def none {H : Type} : Left H := { results := [], args := [] }

/-- 'starling.LawS2532AReplay': WHATEVER THE INPUT: true; the input reads as it did. -/
def lawS2532AReplaySpec : ChangeSpec := { name := "lawS2532AReplay", fn := fun _ => fun
  | [d1, d2, d3, d4] => { results := [.lit (.bool true)], args := [d1, d2, d3, d4] }
  | _ => none }
def lawS2532AReplayRow : OpenClaim := { program := "ybulkazkk", sum := "20bfeeea461de8c4b88bd95cde0d4f47a9f2beae7b7d25f1253b2236f03c004c", func := "example.com/starling/starling.LawS2532AReplay", spec := "lawS2532AReplay", apart := false }
def LawS2532AReplaySaid : Prop := lawS2532AReplayRow.holds Yba.pinned (OpenSpec.ofChange lawS2532AReplaySpec)

/-- ITS FALSE NEIGHBOUR: 'it returns false'. Refute it at one input. -/
def lawS2532AReplayWrong : ChangeSpec := { name := "lawS2532AReplay", fn := fun _ => fun
  | [d1, d2, d3, d4] => { results := [.lit (.bool false)], args := [d1, d2, d3, d4] }
  | _ => none }
def LawS2532AReplayWrongFalsely : Prop := lawS2532AReplayRow.holds Yba.pinned (OpenSpec.ofChange lawS2532AReplayWrong)

/-- 'starling.LawS2532ATable': WHATEVER THE INPUT: true; the input reads as it did. -/
def lawS2532ATableSpec : ChangeSpec := { name := "lawS2532ATable", fn := fun _ => fun
  | [d1, d2, d3, d4] => { results := [.lit (.bool true)], args := [d1, d2, d3, d4] }
  | _ => none }
def lawS2532ATableRow : OpenClaim := { program := "ybulkazkk", sum := "20bfeeea461de8c4b88bd95cde0d4f47a9f2beae7b7d25f1253b2236f03c004c", func := "example.com/starling/starling.LawS2532ATable", spec := "lawS2532ATable", apart := false }
def LawS2532ATableSaid : Prop := lawS2532ATableRow.holds Yba.pinned (OpenSpec.ofChange lawS2532ATableSpec)

/-- ITS FALSE NEIGHBOUR: 'it returns false'. Refute it at one input. -/
def lawS2532ATableWrong : ChangeSpec := { name := "lawS2532ATable", fn := fun _ => fun
  | [d1, d2, d3, d4] => { results := [.lit (.bool false)], args := [d1, d2, d3, d4] }
  | _ => none }
def LawS2532ATableWrongFalsely : Prop := lawS2532ATableRow.holds Yba.pinned (OpenSpec.ofChange lawS2532ATableWrong)

/-- 'starling.LawS2532BFirstErrorAndCancel': WHATEVER THE INPUT: true; the input reads as it did. -/
def lawS2532BFirstErrorAndCancelSpec : ChangeSpec := { name := "lawS2532BFirstErrorAndCancel", fn := fun _ => fun
  | [d] => { results := [.lit (.bool true)], args := [d] }
  | _ => none }
def lawS2532BFirstErrorAndCancelRow : OpenClaim := { program := "ybulkazkk", sum := "20bfeeea461de8c4b88bd95cde0d4f47a9f2beae7b7d25f1253b2236f03c004c", func := "example.com/starling/starling.LawS2532BFirstErrorAndCancel", spec := "lawS2532BFirstErrorAndCancel", inPlace := ["sync/atomic.AddInt64", "(*sync.WaitGroup).Add", "internal/race.ReleaseMerge", "internal/race.Disable", "internal/race.Enable", "internal/synctest.IsInBubble", "internal/synctest.Associate[sync.WaitGroup]", "sync.fatal", "sync/atomic.OrUint64", "sync/atomic.AddUint64", "internal/race.Read", "sync/atomic.LoadUint64", "sync/atomic.StoreUint64", "internal/synctest.Disassociate[sync.WaitGroup]", "sync.runtime_Semrelease", "sync/atomic.LoadUint32", "(*internal/sync.Mutex).Lock", "sync/atomic.CompareAndSwapInt32", "internal/race.Acquire", "(*internal/sync.Mutex).lockSlow", "internal/sync.runtime_canSpin", "internal/sync.runtime_doSpin", "internal/sync.throw", "internal/sync.runtime_nanotime", "internal/sync.runtime_SemacquireMutex", "sync/atomic.AddInt32", "(*internal/sync.Mutex).Unlock", "(*internal/sync.Mutex).unlockSlow", "internal/sync.fatal", "internal/sync.runtime_Semrelease", "sync/atomic.StoreUint32", "(*sync.WaitGroup).Done", "(*sync.WaitGroup).Wait", "internal/synctest.IsAssociated[sync.WaitGroup]", "sync/atomic.CompareAndSwapUint64", "internal/race.Write", "sync.runtime_SemacquireWaitGroup", "sync/atomic.LoadInt64"], unfollowed := true, recurses := true, apart := false }
def LawS2532BFirstErrorAndCancelSaid : Prop := lawS2532BFirstErrorAndCancelRow.holds Yba.pinned (OpenSpec.ofChange lawS2532BFirstErrorAndCancelSpec)

/-- ITS FALSE NEIGHBOUR: 'it returns false'. Refute it at one input. -/
def lawS2532BFirstErrorAndCancelWrong : ChangeSpec := { name := "lawS2532BFirstErrorAndCancel", fn := fun _ => fun
  | [d] => { results := [.lit (.bool false)], args := [d] }
  | _ => none }
def LawS2532BFirstErrorAndCancelWrongFalsely : Prop := lawS2532BFirstErrorAndCancelRow.holds Yba.pinned (OpenSpec.ofChange lawS2532BFirstErrorAndCancelWrong)

/-- 'starling.LawS2532BNoCancel': WHATEVER THE INPUT: true; the input reads as it did. -/
def lawS2532BNoCancelSpec : ChangeSpec := { name := "lawS2532BNoCancel", fn := fun _ => fun
  | [d] => { results := [.lit (.bool true)], args := [d] }
  | _ => none }
def lawS2532BNoCancelRow : OpenClaim := { program := "ybulkazkk", sum := "20bfeeea461de8c4b88bd95cde0d4f47a9f2beae7b7d25f1253b2236f03c004c", func := "example.com/starling/starling.LawS2532BNoCancel", spec := "lawS2532BNoCancel", inPlace := ["sync/atomic.AddInt64", "(*sync.WaitGroup).Add", "internal/race.ReleaseMerge", "internal/race.Disable", "internal/race.Enable", "internal/synctest.IsInBubble", "internal/synctest.Associate[sync.WaitGroup]", "sync.fatal", "sync/atomic.OrUint64", "sync/atomic.AddUint64", "internal/race.Read", "sync/atomic.LoadUint64", "sync/atomic.StoreUint64", "internal/synctest.Disassociate[sync.WaitGroup]", "sync.runtime_Semrelease", "sync/atomic.LoadUint32", "(*internal/sync.Mutex).Lock", "sync/atomic.CompareAndSwapInt32", "internal/race.Acquire", "(*internal/sync.Mutex).lockSlow", "internal/sync.runtime_canSpin", "internal/sync.runtime_doSpin", "internal/sync.throw", "internal/sync.runtime_nanotime", "internal/sync.runtime_SemacquireMutex", "sync/atomic.AddInt32", "(*internal/sync.Mutex).Unlock", "(*internal/sync.Mutex).unlockSlow", "internal/sync.fatal", "internal/sync.runtime_Semrelease", "sync/atomic.StoreUint32", "(*sync.WaitGroup).Done", "(*sync.WaitGroup).Wait", "internal/synctest.IsAssociated[sync.WaitGroup]", "sync/atomic.CompareAndSwapUint64", "internal/race.Write", "sync.runtime_SemacquireWaitGroup"], unfollowed := true, recurses := true, apart := false }
def LawS2532BNoCancelSaid : Prop := lawS2532BNoCancelRow.holds Yba.pinned (OpenSpec.ofChange lawS2532BNoCancelSpec)

/-- ITS FALSE NEIGHBOUR: 'it returns false'. Refute it at one input. -/
def lawS2532BNoCancelWrong : ChangeSpec := { name := "lawS2532BNoCancel", fn := fun _ => fun
  | [d] => { results := [.lit (.bool false)], args := [d] }
  | _ => none }
def LawS2532BNoCancelWrongFalsely : Prop := lawS2532BNoCancelRow.holds Yba.pinned (OpenSpec.ofChange lawS2532BNoCancelWrong)

/-- 'starling.LawS2532CMarks': WHATEVER THE INPUT: true; the input reads as it did. -/
def lawS2532CMarksSpec : ChangeSpec := { name := "lawS2532CMarks", fn := fun _ => fun
  | [d1, d2, d3] => { results := [.lit (.bool true)], args := [d1, d2, d3] }
  | _ => none }
def lawS2532CMarksRow : OpenClaim := { program := "ybulkazkk", sum := "20bfeeea461de8c4b88bd95cde0d4f47a9f2beae7b7d25f1253b2236f03c004c", func := "example.com/starling/starling.LawS2532CMarks", spec := "lawS2532CMarks", inPlace := ["sync/atomic.StorePointer", "sync/atomic.LoadPointer"], unfollowed := true, recurses := true, apart := false }
def LawS2532CMarksSaid : Prop := lawS2532CMarksRow.holds Yba.pinned (OpenSpec.ofChange lawS2532CMarksSpec)

/-- ITS FALSE NEIGHBOUR: 'it returns false'. Refute it at one input. -/
def lawS2532CMarksWrong : ChangeSpec := { name := "lawS2532CMarks", fn := fun _ => fun
  | [d1, d2, d3] => { results := [.lit (.bool false)], args := [d1, d2, d3] }
  | _ => none }
def LawS2532CMarksWrongFalsely : Prop := lawS2532CMarksRow.holds Yba.pinned (OpenSpec.ofChange lawS2532CMarksWrong)

end Rows
end Go.Proofs.Ybulkazkk
