/-
  No cell of these rows narrows 'for every input' (looked for: loops, veiled, ifaces, maps, wideKeys, modest, calm, conditions, laid).
  DERIVED. THE GIVEN ROWS OF THIS SEAT. 2 by the template 'for every input the law returns true; each argument reads behind the call as it read before'; 0 by the template 'total and deterministic' (their statements: Qxb6630741aTotals.lean).
  GIVEN WITH THE SEED: the statements are not yours to turn. If you find one false, say at which input.
  Laid BY PROGRAM, IN A SANDBOX (cutbox-rows.mjs): the forced cells as the released guide's own fill.sh prints them over the translation 7bd089ffdf033530… (all of the seat's roots in one cut). By AI agents, Wed Nov 11 2026. No macro, syntax, notation, axiom, sorry.
-/
import Derived.Test.Qxb6630741aChecked
import GoSem.Claim
import GoSem.ClaimJoined
import GoSem.ClaimMapViews
import Derived.JoinedTies
import Derived.KernelRfl
namespace Go.Proofs.Qxb6630741a
/- THE CELL 'sum', in the pinned program and in every row, IS THE sha256 OF THE DUMP (.gsa) THAT Qxb6630741aProg.lean LOADS. Nothing in Lean hashes anything: it is a label: what it is worth is what the hold of that sum in a sandbox is worth. -/
noncomputable def Try.pinned : Pinned := { name := "qxb6630741a", sum := "7bd089ffdf03353043d830923c223914a18012cb6b914edfed037d5fec8ec0cb", checked := Try.checked }
namespace Rows
def none {H : Type} : Left H := { results := [], args := [] }

/-- 'zzlaws_metrics_b1.FnCountSplitsAtAnyCutAndCountsOneBucketAsItsValue': WHATEVER THE INPUT: true; the input reads as it did. -/
def fnCountSplitsAtAnyCutAndCountsOneBucketAsItsValueSpec : ChangeSpec := { name := "fnCountSplitsAtAnyCutAndCountsOneBucketAsItsValue", fn := fun _ => fun
  | [d1, d2] => { results := [.lit (.bool true)], args := [d1, d2] }
  | _ => none }
def fnCountSplitsAtAnyCutAndCountsOneBucketAsItsValueRow : OpenClaim := { program := "qxb6630741a", sum := "7bd089ffdf03353043d830923c223914a18012cb6b914edfed037d5fec8ec0cb", func := "example.com/quorumweave/quorumweave/zzlaws_metrics_b1.FnCountSplitsAtAnyCutAndCountsOneBucketAsItsValue", spec := "fnCountSplitsAtAnyCutAndCountsOneBucketAsItsValue", inPlace := ["(*internal/sync.Mutex).Lock", "internal/race.Disable", "sync/atomic.CompareAndSwapInt32", "internal/race.Enable", "internal/race.Acquire", "(*internal/sync.Mutex).lockSlow", "internal/sync.runtime_canSpin", "internal/sync.runtime_doSpin", "internal/sync.throw", "internal/sync.runtime_nanotime", "internal/sync.runtime_SemacquireMutex", "sync/atomic.AddInt32", "(*internal/sync.Mutex).Unlock", "internal/race.ReleaseMerge", "(*internal/sync.Mutex).unlockSlow", "internal/sync.fatal", "internal/sync.runtime_Semrelease"], apart := false }
def FnCountSplitsAtAnyCutAndCountsOneBucketAsItsValueSaid : Prop := fnCountSplitsAtAnyCutAndCountsOneBucketAsItsValueRow.holds Try.pinned (OpenSpec.ofChange fnCountSplitsAtAnyCutAndCountsOneBucketAsItsValueSpec)

/-- ITS FALSE NEIGHBOUR: 'it returns false'. Refute it at one input. -/
def fnCountSplitsAtAnyCutAndCountsOneBucketAsItsValueWrong : ChangeSpec := { name := "fnCountSplitsAtAnyCutAndCountsOneBucketAsItsValue", fn := fun _ => fun
  | [d1, d2] => { results := [.lit (.bool false)], args := [d1, d2] }
  | _ => none }
def FnCountSplitsAtAnyCutAndCountsOneBucketAsItsValueWrongFalsely : Prop := fnCountSplitsAtAnyCutAndCountsOneBucketAsItsValueRow.holds Try.pinned (OpenSpec.ofChange fnCountSplitsAtAnyCutAndCountsOneBucketAsItsValueWrong)

/-- 'zzlaws_metrics_b1.FnCountRisesByOneForOneMoreInAnyBucket': WHATEVER THE INPUT: true; the input reads as it did. -/
def fnCountRisesByOneForOneMoreInAnyBucketSpec : ChangeSpec := { name := "fnCountRisesByOneForOneMoreInAnyBucket", fn := fun _ => fun
  | [d1, d2] => { results := [.lit (.bool true)], args := [d1, d2] }
  | _ => none }
def fnCountRisesByOneForOneMoreInAnyBucketRow : OpenClaim := { program := "qxb6630741a", sum := "7bd089ffdf03353043d830923c223914a18012cb6b914edfed037d5fec8ec0cb", func := "example.com/quorumweave/quorumweave/zzlaws_metrics_b1.FnCountRisesByOneForOneMoreInAnyBucket", spec := "fnCountRisesByOneForOneMoreInAnyBucket", inPlace := ["(*internal/sync.Mutex).Lock", "internal/race.Disable", "sync/atomic.CompareAndSwapInt32", "internal/race.Enable", "internal/race.Acquire", "(*internal/sync.Mutex).lockSlow", "internal/sync.runtime_canSpin", "internal/sync.runtime_doSpin", "internal/sync.throw", "internal/sync.runtime_nanotime", "internal/sync.runtime_SemacquireMutex", "sync/atomic.AddInt32", "(*internal/sync.Mutex).Unlock", "internal/race.ReleaseMerge", "(*internal/sync.Mutex).unlockSlow", "internal/sync.fatal", "internal/sync.runtime_Semrelease"], apart := false }
def FnCountRisesByOneForOneMoreInAnyBucketSaid : Prop := fnCountRisesByOneForOneMoreInAnyBucketRow.holds Try.pinned (OpenSpec.ofChange fnCountRisesByOneForOneMoreInAnyBucketSpec)

/-- ITS FALSE NEIGHBOUR: 'it returns false'. Refute it at one input. -/
def fnCountRisesByOneForOneMoreInAnyBucketWrong : ChangeSpec := { name := "fnCountRisesByOneForOneMoreInAnyBucket", fn := fun _ => fun
  | [d1, d2] => { results := [.lit (.bool false)], args := [d1, d2] }
  | _ => none }
def FnCountRisesByOneForOneMoreInAnyBucketWrongFalsely : Prop := fnCountRisesByOneForOneMoreInAnyBucketRow.holds Try.pinned (OpenSpec.ofChange fnCountRisesByOneForOneMoreInAnyBucketWrong)

end Rows
end Go.Proofs.Qxb6630741a
