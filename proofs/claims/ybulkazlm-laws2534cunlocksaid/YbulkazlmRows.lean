/-
  No cell of these rows narrows 'for every input' (looked for: loops, veiled, ifaces, maps, wideKeys, modest, calm, conditions, laid).
  DERIVED. THE GIVEN ROWS OF THIS SEAT. 2 by the template 'for every input the law returns true; each argument reads behind the call as it read before'; 0 by the template 'total and deterministic' (their statements: YbulkazlmTotals.lean).
  GIVEN WITH THE SEED: the statements are not yours to turn. If you find one false, say at which input.
  Laid BY PROGRAM, IN A SANDBOX (cutbox-rows.mjs): the forced cells as the released guide's own fill.sh prints them over the translation 401bf478bb346c01… (all of the seat's roots in one cut). By AI agents, Wed Nov 11 2026. No macro, syntax, notation, axiom, sorry.
-/
import Derived.Test.YbulkazlmChecked
import GoSem.Claim
import GoSem.ClaimJoined
import GoSem.ClaimMapViews
import Derived.JoinedTies
import Derived.KernelRfl
namespace Go.Proofs.Ybulkazlm
/- THE CELL 'sum', in the pinned program and in every row, IS THE sha256 OF THE DUMP (.gsa) THAT YbulkazlmProg.lean LOADS. Nothing in Lean hashes anything: it is a label: what it is worth is what the hold of that sum in a sandbox is worth. -/
noncomputable def Yba.pinned : Pinned := { name := "ybulkazlm", sum := "401bf478bb346c01e81fbdf1e2abbfa6aeb69da0c5550b93c0f5dc48b967224d", checked := Yba.checked }
namespace Rows
def none {H : Type} : Left H := { results := [], args := [] }

/-- 'bottomless.LawS2534CToken': WHATEVER THE INPUT: true; the input reads as it did. -/
def lawS2534CTokenSpec : ChangeSpec := { name := "lawS2534CToken", fn := fun _ => fun
  | [d1, d2, d3, d4] => { results := [.lit (.bool true)], args := [d1, d2, d3, d4] }
  | _ => none }
def lawS2534CTokenRow : OpenClaim := { program := "ybulkazlm", sum := "401bf478bb346c01e81fbdf1e2abbfa6aeb69da0c5550b93c0f5dc48b967224d", func := "example.com/bottomless/bottomless.LawS2534CToken", spec := "lawS2534CToken", inPlace := ["sync/atomic.StorePointer", "sync/atomic.LoadInt32", "sync/atomic.LoadInt64", "sync/atomic.LoadPointer", "sync/atomic.CompareAndSwapPointer", "sync/atomic.LoadUint64", "sync/atomic.LoadUint32"], apart := false }
def LawS2534CTokenSaid : Prop := lawS2534CTokenRow.holds Yba.pinned (OpenSpec.ofChange lawS2534CTokenSpec)

/-- ITS FALSE NEIGHBOUR: 'it returns false'. Refute it at one input. -/
def lawS2534CTokenWrong : ChangeSpec := { name := "lawS2534CToken", fn := fun _ => fun
  | [d1, d2, d3, d4] => { results := [.lit (.bool false)], args := [d1, d2, d3, d4] }
  | _ => none }
def LawS2534CTokenWrongFalsely : Prop := lawS2534CTokenRow.holds Yba.pinned (OpenSpec.ofChange lawS2534CTokenWrong)

/-- 'bottomless.LawS2534CUnlock': WHATEVER THE INPUT: true; the input reads as it did. -/
def lawS2534CUnlockSpec : ChangeSpec := { name := "lawS2534CUnlock", fn := fun _ => fun
  | [d1, d2, d3, d4] => { results := [.lit (.bool true)], args := [d1, d2, d3, d4] }
  | _ => none }
def lawS2534CUnlockRow : OpenClaim := { program := "ybulkazlm", sum := "401bf478bb346c01e81fbdf1e2abbfa6aeb69da0c5550b93c0f5dc48b967224d", func := "example.com/bottomless/bottomless.LawS2534CUnlock", spec := "lawS2534CUnlock", inPlace := ["sync/atomic.StorePointer", "(*internal/sync.Mutex).Lock", "internal/race.Disable", "sync/atomic.CompareAndSwapInt32", "internal/race.Enable", "internal/race.Acquire", "(*internal/sync.Mutex).lockSlow", "internal/sync.runtime_canSpin", "internal/sync.runtime_doSpin", "internal/sync.throw", "internal/sync.runtime_nanotime", "internal/sync.runtime_SemacquireMutex", "sync/atomic.AddInt32", "sync/atomic.LoadInt32", "sync/atomic.LoadInt64", "sync/atomic.LoadPointer", "sync/atomic.CompareAndSwapPointer", "sync/atomic.LoadUint64", "sync/atomic.LoadUint32", "(*internal/sync.Mutex).Unlock", "internal/race.ReleaseMerge", "(*internal/sync.Mutex).unlockSlow", "internal/sync.fatal", "internal/sync.runtime_Semrelease", "(*internal/sync.Mutex).TryLock"], apart := false }
def LawS2534CUnlockSaid : Prop := lawS2534CUnlockRow.holds Yba.pinned (OpenSpec.ofChange lawS2534CUnlockSpec)

/-- ITS FALSE NEIGHBOUR: 'it returns false'. Refute it at one input. -/
def lawS2534CUnlockWrong : ChangeSpec := { name := "lawS2534CUnlock", fn := fun _ => fun
  | [d1, d2, d3, d4] => { results := [.lit (.bool false)], args := [d1, d2, d3, d4] }
  | _ => none }
def LawS2534CUnlockWrongFalsely : Prop := lawS2534CUnlockRow.holds Yba.pinned (OpenSpec.ofChange lawS2534CUnlockWrong)

end Rows
end Go.Proofs.Ybulkazlm
