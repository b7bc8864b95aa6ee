/-
  No cell of these rows narrows 'for every input' (looked for: loops, veiled, ifaces, maps, wideKeys, modest, calm, conditions, laid).
  DERIVED. THE GIVEN ROWS OF THIS SEAT. 3 by the template 'for every input the law returns true; each argument reads behind the call as it read before'; 0 by the template 'total and deterministic' (their statements: YbulkayhwTotals.lean).
  GIVEN WITH THE SEED: the statements are not yours to turn. If you find one false, say at which input.
  Laid BY PROGRAM, IN A SANDBOX (cutbox-rows.mjs): the forced cells as the released guide's own fill.sh prints them over the translation 62244ca4d530a224… (all of the seat's roots in one cut). By AI agents, Wed Nov 11 2026. No macro, syntax, notation, axiom, sorry.
-/
import Derived.Test.YbulkayhwChecked
import GoSem.Claim
import GoSem.ClaimJoined
import GoSem.ClaimMapViews
import Derived.JoinedTies
import Derived.KernelRfl
namespace Go.Proofs.Ybulkayhw
/- THE CELL 'sum', in the pinned program and in every row, IS THE sha256 OF THE DUMP (.gsa) THAT YbulkayhwProg.lean LOADS. Nothing in Lean hashes anything: it is a label: what it is worth is what the hold of that sum in a sandbox is worth. -/
noncomputable def Yba.pinned : Pinned := { name := "ybulkayhw", sum := "62244ca4d530a224bcb66b5d863e82501a883e01defb9759781f1b5a0ada3535", checked := Yba.checked }
namespace Rows
def none {H : Type} : Left H := { results := [], args := [] }

/-- 'wire.LawS2479BEnd': WHATEVER THE INPUT: true; the input reads as it did. -/
def lawS2479BEndSpec : ChangeSpec := { name := "lawS2479BEnd", fn := fun _ => fun
  | [d1, d2, d3, d4, d5, d6, d7, d8, d9] => { results := [.lit (.bool true)], args := [d1, d2, d3, d4, d5, d6, d7, d8, d9] }
  | _ => none }
def lawS2479BEndRow : OpenClaim := { program := "ybulkayhw", sum := "62244ca4d530a224bcb66b5d863e82501a883e01defb9759781f1b5a0ada3535", func := "example.com/ringward/ringward/internal/wire.LawS2479BEnd", spec := "lawS2479BEnd", inPlace := ["(*internal/sync.Mutex).Lock", "internal/race.Disable", "sync/atomic.CompareAndSwapInt32", "internal/race.Enable", "internal/race.Acquire", "(*internal/sync.Mutex).lockSlow", "internal/sync.runtime_canSpin", "internal/sync.runtime_doSpin", "internal/sync.throw", "internal/sync.runtime_nanotime", "internal/sync.runtime_SemacquireMutex", "sync/atomic.AddInt32", "(*internal/sync.Mutex).Unlock", "internal/race.ReleaseMerge", "(*internal/sync.Mutex).unlockSlow", "internal/sync.fatal", "internal/sync.runtime_Semrelease", "sync/atomic.LoadUint32", "sync/atomic.StoreUint32"], apart := false }
def LawS2479BEndSaid : Prop := lawS2479BEndRow.holds Yba.pinned (OpenSpec.ofChange lawS2479BEndSpec)

/-- ITS FALSE NEIGHBOUR: 'it returns false'. Refute it at one input. -/
def lawS2479BEndWrong : ChangeSpec := { name := "lawS2479BEnd", fn := fun _ => fun
  | [d1, d2, d3, d4, d5, d6, d7, d8, d9] => { results := [.lit (.bool false)], args := [d1, d2, d3, d4, d5, d6, d7, d8, d9] }
  | _ => none }
def LawS2479BEndWrongFalsely : Prop := lawS2479BEndRow.holds Yba.pinned (OpenSpec.ofChange lawS2479BEndWrong)

/-- 'wire.LawS2479BIdempotent': WHATEVER THE INPUT: true; the input reads as it did. -/
def lawS2479BIdempotentSpec : ChangeSpec := { name := "lawS2479BIdempotent", fn := fun _ => fun
  | [d1, d2, d3, d4, d5, d6, d7, d8, d9] => { results := [.lit (.bool true)], args := [d1, d2, d3, d4, d5, d6, d7, d8, d9] }
  | _ => none }
def lawS2479BIdempotentRow : OpenClaim := { program := "ybulkayhw", sum := "62244ca4d530a224bcb66b5d863e82501a883e01defb9759781f1b5a0ada3535", func := "example.com/ringward/ringward/internal/wire.LawS2479BIdempotent", spec := "lawS2479BIdempotent", inPlace := ["sync/atomic.StoreUint32", "(*internal/sync.Mutex).Lock", "internal/race.Disable", "sync/atomic.CompareAndSwapInt32", "internal/race.Enable", "internal/race.Acquire", "(*internal/sync.Mutex).lockSlow", "internal/sync.runtime_canSpin", "internal/sync.runtime_doSpin", "internal/sync.throw", "internal/sync.runtime_nanotime", "internal/sync.runtime_SemacquireMutex", "sync/atomic.AddInt32", "(*internal/sync.Mutex).Unlock", "internal/race.ReleaseMerge", "(*internal/sync.Mutex).unlockSlow", "internal/sync.fatal", "internal/sync.runtime_Semrelease", "sync/atomic.LoadUint32"], apart := false }
def LawS2479BIdempotentSaid : Prop := lawS2479BIdempotentRow.holds Yba.pinned (OpenSpec.ofChange lawS2479BIdempotentSpec)

/-- ITS FALSE NEIGHBOUR: 'it returns false'. Refute it at one input. -/
def lawS2479BIdempotentWrong : ChangeSpec := { name := "lawS2479BIdempotent", fn := fun _ => fun
  | [d1, d2, d3, d4, d5, d6, d7, d8, d9] => { results := [.lit (.bool false)], args := [d1, d2, d3, d4, d5, d6, d7, d8, d9] }
  | _ => none }
def LawS2479BIdempotentWrongFalsely : Prop := lawS2479BIdempotentRow.holds Yba.pinned (OpenSpec.ofChange lawS2479BIdempotentWrong)

/-- 'sorted.LawS2479CJoin': WHATEVER THE INPUT: true; the input reads as it did. -/
def lawS2479CJoinSpec : ChangeSpec := { name := "lawS2479CJoin", fn := fun _ => fun
  | [d1, d2] => { results := [.lit (.bool true)], args := [d1, d2] }
  | _ => none }
def lawS2479CJoinRow : OpenClaim := { program := "ybulkayhw", sum := "62244ca4d530a224bcb66b5d863e82501a883e01defb9759781f1b5a0ada3535", func := "example.com/ringward/ringward/internal/sorted.LawS2479CJoin", spec := "lawS2479CJoin", recurses := true, apart := false }
def LawS2479CJoinSaid : Prop := lawS2479CJoinRow.holds Yba.pinned (OpenSpec.ofChange lawS2479CJoinSpec)

/-- ITS FALSE NEIGHBOUR: 'it returns false'. Refute it at one input. -/
def lawS2479CJoinWrong : ChangeSpec := { name := "lawS2479CJoin", fn := fun _ => fun
  | [d1, d2] => { results := [.lit (.bool false)], args := [d1, d2] }
  | _ => none }
def LawS2479CJoinWrongFalsely : Prop := lawS2479CJoinRow.holds Yba.pinned (OpenSpec.ofChange lawS2479CJoinWrong)

end Rows
end Go.Proofs.Ybulkayhw
