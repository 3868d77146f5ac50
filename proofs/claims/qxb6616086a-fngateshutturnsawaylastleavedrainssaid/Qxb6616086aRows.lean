/-
  No cell of these rows narrows 'for every input' (looked for: loops, veiled, ifaces, maps, wideKeys, modest, calm, conditions, laid).
  DERIVED. THE GIVEN ROWS OF THIS SEAT. 1 by the template 'for every input the law returns true; each argument reads behind the call as it read before'; 0 by the template 'total and deterministic' (their statements: Qxb6616086aTotals.lean).
  GIVEN WITH THE SEED: the statements are not yours to turn. If you find one false, say at which input.
  Laid BY PROGRAM, IN A SANDBOX (cutbox-rows.mjs): the forced cells as the released guide's own fill.sh prints them over the translation 2ed315dff0eb7440… (all of the seat's roots in one cut). By AI agents, Wed Nov 11 2026. No macro, syntax, notation, axiom, sorry.
-/
import Derived.Test.Qxb6616086aChecked
import GoSem.Claim
import GoSem.ClaimJoined
import GoSem.ClaimMapViews
import Derived.JoinedTies
import Derived.KernelRfl
namespace Go.Proofs.Qxb6616086a
/- THE CELL 'sum', in the pinned program and in every row, IS THE sha256 OF THE DUMP (.gsa) THAT Qxb6616086aProg.lean LOADS. Nothing in Lean hashes anything: it is a label: what it is worth is what the hold of that sum in a sandbox is worth. -/
noncomputable def Try.pinned : Pinned := { name := "qxb6616086a", sum := "2ed315dff0eb74401f0c89dec1e05cc339aebd8b3010a6f9b8f24f35c0b22cae", checked := Try.checked }
namespace Rows
def none {H : Type} : Left H := { results := [], args := [] }

/-- 'zzlaws_root_b1.FnGateShutTurnsAwayLastLeaveDrains': WHATEVER THE INPUT: true; the input reads as it did. -/
def fnGateShutTurnsAwayLastLeaveDrainsSpec : ChangeSpec := { name := "fnGateShutTurnsAwayLastLeaveDrains", fn := fun _ => fun
  | [d1, d2, d3, d4] => { results := [.lit (.bool true)], args := [d1, d2, d3, d4] }
  | _ => none }
def fnGateShutTurnsAwayLastLeaveDrainsRow : OpenClaim := { program := "qxb6616086a", sum := "2ed315dff0eb74401f0c89dec1e05cc339aebd8b3010a6f9b8f24f35c0b22cae", func := "example.com/seriatim/seriatim/zzlaws_root_b1.FnGateShutTurnsAwayLastLeaveDrains", spec := "fnGateShutTurnsAwayLastLeaveDrains", inPlace := ["sync/atomic.StoreInt64", "sync/atomic.StoreUint32", "sync/atomic.AddInt64", "sync/atomic.LoadUint32", "sync/atomic.LoadInt64", "(*internal/sync.Mutex).Lock", "internal/race.Disable", "sync/atomic.CompareAndSwapInt32", "internal/race.Enable", "internal/race.Acquire", "(*internal/sync.Mutex).lockSlow", "internal/sync.runtime_canSpin", "internal/sync.runtime_doSpin", "internal/sync.throw", "internal/sync.runtime_nanotime", "internal/sync.runtime_SemacquireMutex", "sync/atomic.AddInt32", "(*internal/sync.Mutex).Unlock", "internal/race.ReleaseMerge", "(*internal/sync.Mutex).unlockSlow", "internal/sync.fatal", "internal/sync.runtime_Semrelease"], unfollowed := true, recurses := true, apart := false }
def FnGateShutTurnsAwayLastLeaveDrainsSaid : Prop := fnGateShutTurnsAwayLastLeaveDrainsRow.holds Try.pinned (OpenSpec.ofChange fnGateShutTurnsAwayLastLeaveDrainsSpec)

/-- ITS FALSE NEIGHBOUR: 'it returns false'. Refute it at one input. -/
def fnGateShutTurnsAwayLastLeaveDrainsWrong : ChangeSpec := { name := "fnGateShutTurnsAwayLastLeaveDrains", fn := fun _ => fun
  | [d1, d2, d3, d4] => { results := [.lit (.bool false)], args := [d1, d2, d3, d4] }
  | _ => none }
def FnGateShutTurnsAwayLastLeaveDrainsWrongFalsely : Prop := fnGateShutTurnsAwayLastLeaveDrainsRow.holds Try.pinned (OpenSpec.ofChange fnGateShutTurnsAwayLastLeaveDrainsWrong)

end Rows
end Go.Proofs.Qxb6616086a
