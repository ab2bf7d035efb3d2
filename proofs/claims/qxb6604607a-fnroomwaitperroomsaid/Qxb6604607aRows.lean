/-
  No cell of these rows narrows 'for every input' (looked for: loops, veiled, ifaces, maps, wideKeys, modest, calm, conditions, laid).
  DERIVED. THE GIVEN ROWS OF THIS SEAT. 2 by the template 'for every input the law returns true; each argument reads behind the call as it read before'; 0 by the template 'total and deterministic' (their statements: Qxb6604607aTotals.lean).
  GIVEN WITH THE SEED: the statements are not yours to turn. If you find one false, say at which input.
  Laid BY PROGRAM, IN A SANDBOX (cutbox-rows.mjs): the forced cells as the released guide's own fill.sh prints them over the translation d32a5b9ed7c22eaa… (all of the seat's roots in one cut). By AI agents, Wed Nov 11 2026. No macro, syntax, notation, axiom, sorry.
-/
import Derived.Test.Qxb6604607aChecked
import GoSem.Claim
import GoSem.ClaimJoined
import GoSem.ClaimMapViews
import Derived.JoinedTies
import Derived.KernelRfl
namespace Go.Proofs.Qxb6604607a
/- THE CELL 'sum', in the pinned program and in every row, IS THE sha256 OF THE DUMP (.gsa) THAT Qxb6604607aProg.lean LOADS. Nothing in Lean hashes anything: it is a label: what it is worth is what the hold of that sum in a sandbox is worth. -/
noncomputable def Try.pinned : Pinned := { name := "qxb6604607a", sum := "d32a5b9ed7c22eaaaa36a1cff6ab2b9e9e8f3912febc4c8e88b5a2963278a52b", checked := Try.checked }
namespace Rows
def none {H : Type} : Left H := { results := [], args := [] }

/-- 'zzlaws_root_b1.FnRoomWaitSameChannelUntilFreed': WHATEVER THE INPUT: true; the input reads as it did. -/
def fnRoomWaitSameChannelUntilFreedSpec : ChangeSpec := { name := "fnRoomWaitSameChannelUntilFreed", fn := fun _ => fun
  | [d] => { results := [.lit (.bool true)], args := [d] }
  | _ => none }
def fnRoomWaitSameChannelUntilFreedRow : OpenClaim := { program := "qxb6604607a", sum := "d32a5b9ed7c22eaaaa36a1cff6ab2b9e9e8f3912febc4c8e88b5a2963278a52b", func := "example.com/causeway/causeway/zzlaws_root_b1.FnRoomWaitSameChannelUntilFreed", spec := "fnRoomWaitSameChannelUntilFreed", inPlace := ["sync/atomic.LoadUint32", "(*internal/sync.Mutex).Lock", "internal/race.Disable", "sync/atomic.CompareAndSwapInt32", "internal/race.Enable", "internal/race.Acquire", "(*internal/sync.Mutex).lockSlow", "internal/sync.runtime_canSpin", "internal/sync.runtime_doSpin", "internal/sync.throw", "internal/sync.runtime_nanotime", "internal/sync.runtime_SemacquireMutex", "sync/atomic.AddInt32", "(*internal/sync.Mutex).Unlock", "internal/race.ReleaseMerge", "(*internal/sync.Mutex).unlockSlow", "internal/sync.fatal", "internal/sync.runtime_Semrelease", "sync/atomic.StoreUint32"], apart := false }
def FnRoomWaitSameChannelUntilFreedSaid : Prop := fnRoomWaitSameChannelUntilFreedRow.holds Try.pinned (OpenSpec.ofChange fnRoomWaitSameChannelUntilFreedSpec)

/-- ITS FALSE NEIGHBOUR: 'it returns false'. Refute it at one input. -/
def fnRoomWaitSameChannelUntilFreedWrong : ChangeSpec := { name := "fnRoomWaitSameChannelUntilFreed", fn := fun _ => fun
  | [d] => { results := [.lit (.bool false)], args := [d] }
  | _ => none }
def FnRoomWaitSameChannelUntilFreedWrongFalsely : Prop := fnRoomWaitSameChannelUntilFreedRow.holds Try.pinned (OpenSpec.ofChange fnRoomWaitSameChannelUntilFreedWrong)

/-- 'zzlaws_root_b1.FnRoomWaitPerRoom': WHATEVER THE INPUT: true; the input reads as it did. -/
def fnRoomWaitPerRoomSpec : ChangeSpec := { name := "fnRoomWaitPerRoom", fn := fun _ => fun
  | [d] => { results := [.lit (.bool true)], args := [d] }
  | _ => none }
def fnRoomWaitPerRoomRow : OpenClaim := { program := "qxb6604607a", sum := "d32a5b9ed7c22eaaaa36a1cff6ab2b9e9e8f3912febc4c8e88b5a2963278a52b", func := "example.com/causeway/causeway/zzlaws_root_b1.FnRoomWaitPerRoom", spec := "fnRoomWaitPerRoom", inPlace := ["(*internal/sync.Mutex).Lock", "internal/race.Disable", "sync/atomic.CompareAndSwapInt32", "internal/race.Enable", "internal/race.Acquire", "(*internal/sync.Mutex).lockSlow", "internal/sync.runtime_canSpin", "internal/sync.runtime_doSpin", "internal/sync.throw", "internal/sync.runtime_nanotime", "internal/sync.runtime_SemacquireMutex", "sync/atomic.AddInt32", "(*internal/sync.Mutex).Unlock", "internal/race.ReleaseMerge", "(*internal/sync.Mutex).unlockSlow", "internal/sync.fatal", "internal/sync.runtime_Semrelease", "sync/atomic.StoreUint32", "sync/atomic.LoadUint32"], apart := false }
def FnRoomWaitPerRoomSaid : Prop := fnRoomWaitPerRoomRow.holds Try.pinned (OpenSpec.ofChange fnRoomWaitPerRoomSpec)

/-- ITS FALSE NEIGHBOUR: 'it returns false'. Refute it at one input. -/
def fnRoomWaitPerRoomWrong : ChangeSpec := { name := "fnRoomWaitPerRoom", fn := fun _ => fun
  | [d] => { results := [.lit (.bool false)], args := [d] }
  | _ => none }
def FnRoomWaitPerRoomWrongFalsely : Prop := fnRoomWaitPerRoomRow.holds Try.pinned (OpenSpec.ofChange fnRoomWaitPerRoomWrong)

end Rows
end Go.Proofs.Qxb6604607a
