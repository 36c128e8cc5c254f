/-
  No cell of these rows narrows 'for every input' (looked for: loops, veiled, ifaces, maps, wideKeys, modest, calm, conditions, laid).
  DERIVED. THE GIVEN ROWS OF THIS SEAT. 3 by the template 'for every input the law returns true; each argument reads behind the call as it read before'; 0 by the template 'total and deterministic' (their statements: Qxb6616364aTotals.lean).
  GIVEN WITH THE SEED: the statements are not yours to turn. If you find one false, say at which input.
  Laid BY PROGRAM, IN A SANDBOX (cutbox-rows.mjs): the forced cells as the released guide's own fill.sh prints them over the translation 092a1a2d6e5ea4fe… (all of the seat's roots in one cut). By AI agents, Wed Nov 11 2026. No macro, syntax, notation, axiom, sorry.
-/
import Derived.Test.Qxb6616364aChecked
import GoSem.Claim
import GoSem.ClaimJoined
import GoSem.ClaimMapViews
import Derived.JoinedTies
import Derived.KernelRfl
namespace Go.Proofs.Qxb6616364a
/- THE CELL 'sum', in the pinned program and in every row, IS THE sha256 OF THE DUMP (.gsa) THAT Qxb6616364aProg.lean LOADS. Nothing in Lean hashes anything: it is a label: what it is worth is what the hold of that sum in a sandbox is worth. -/
noncomputable def Try.pinned : Pinned := { name := "qxb6616364a", sum := "092a1a2d6e5ea4fec0ab47c339f08ec00d696b26462fad992d4633908423a325", checked := Try.checked }
namespace Rows
def none {H : Type} : Left H := { results := [], args := [] }

/-- 'zzlaws_selector_b1.FnFailMarkerDueAfterFailsAndClaim': WHATEVER THE INPUT: true; the input reads as it did. -/
def fnFailMarkerDueAfterFailsAndClaimSpec : ChangeSpec := { name := "fnFailMarkerDueAfterFailsAndClaim", fn := fun _ => fun
  | [d1, d2, d3, d4] => { results := [.lit (.bool true)], args := [d1, d2, d3, d4] }
  | _ => none }
def fnFailMarkerDueAfterFailsAndClaimRow : OpenClaim := { program := "qxb6616364a", sum := "092a1a2d6e5ea4fec0ab47c339f08ec00d696b26462fad992d4633908423a325", func := "example.com/proxy-node-picker/proxy-node-picker/zzlaws_selector_b1.FnFailMarkerDueAfterFailsAndClaim", spec := "fnFailMarkerDueAfterFailsAndClaim", inPlace := ["(*internal/sync.Mutex).Lock", "internal/race.Disable", "sync/atomic.CompareAndSwapInt32", "internal/race.Enable", "internal/race.Acquire", "(*internal/sync.Mutex).lockSlow", "internal/sync.runtime_canSpin", "internal/sync.runtime_doSpin", "internal/sync.throw", "internal/sync.runtime_nanotime", "internal/sync.runtime_SemacquireMutex", "sync/atomic.AddInt32", "(*internal/sync.Mutex).Unlock", "internal/race.ReleaseMerge", "(*internal/sync.Mutex).unlockSlow", "internal/sync.fatal", "internal/sync.runtime_Semrelease", "weak.runtime_makeStrongFromWeak"], unfollowed := true, recurses := true, apart := false }
def FnFailMarkerDueAfterFailsAndClaimSaid : Prop := fnFailMarkerDueAfterFailsAndClaimRow.holds Try.pinned (OpenSpec.ofChange fnFailMarkerDueAfterFailsAndClaimSpec)

/-- ITS FALSE NEIGHBOUR: 'it returns false'. Refute it at one input. -/
def fnFailMarkerDueAfterFailsAndClaimWrong : ChangeSpec := { name := "fnFailMarkerDueAfterFailsAndClaim", fn := fun _ => fun
  | [d1, d2, d3, d4] => { results := [.lit (.bool false)], args := [d1, d2, d3, d4] }
  | _ => none }
def FnFailMarkerDueAfterFailsAndClaimWrongFalsely : Prop := fnFailMarkerDueAfterFailsAndClaimRow.holds Try.pinned (OpenSpec.ofChange fnFailMarkerDueAfterFailsAndClaimWrong)

/-- 'zzlaws_selector_b1.FnGroupNodesReturnsTheGivenList': WHATEVER THE INPUT: true; the input reads as it did. -/
def fnGroupNodesReturnsTheGivenListSpec : ChangeSpec := { name := "fnGroupNodesReturnsTheGivenList", fn := fun _ => fun
  | [d] => { results := [.lit (.bool true)], args := [d] }
  | _ => none }
def fnGroupNodesReturnsTheGivenListRow : OpenClaim := { program := "qxb6616364a", sum := "092a1a2d6e5ea4fec0ab47c339f08ec00d696b26462fad992d4633908423a325", func := "example.com/proxy-node-picker/proxy-node-picker/zzlaws_selector_b1.FnGroupNodesReturnsTheGivenList", spec := "fnGroupNodesReturnsTheGivenList", inPlace := ["(*internal/sync.Mutex).Lock", "internal/race.Disable", "sync/atomic.CompareAndSwapInt32", "internal/race.Enable", "internal/race.Acquire", "(*internal/sync.Mutex).lockSlow", "internal/sync.runtime_canSpin", "internal/sync.runtime_doSpin", "internal/sync.throw", "internal/sync.runtime_nanotime", "internal/sync.runtime_SemacquireMutex", "sync/atomic.AddInt32", "(*internal/sync.Mutex).Unlock", "internal/race.ReleaseMerge", "(*internal/sync.Mutex).unlockSlow", "internal/sync.fatal", "internal/sync.runtime_Semrelease", "weak.runtime_makeStrongFromWeak", "internal/abi.Escape[*example.com/proxy-node-picker/proxy-node-picker/selector.watch]", "weak.runtime_registerWeakPointer", "runtime.KeepAlive"], unfollowed := true, recurses := true, apart := false }
def FnGroupNodesReturnsTheGivenListSaid : Prop := fnGroupNodesReturnsTheGivenListRow.holds Try.pinned (OpenSpec.ofChange fnGroupNodesReturnsTheGivenListSpec)

/-- ITS FALSE NEIGHBOUR: 'it returns false'. Refute it at one input. -/
def fnGroupNodesReturnsTheGivenListWrong : ChangeSpec := { name := "fnGroupNodesReturnsTheGivenList", fn := fun _ => fun
  | [d] => { results := [.lit (.bool false)], args := [d] }
  | _ => none }
def FnGroupNodesReturnsTheGivenListWrongFalsely : Prop := fnGroupNodesReturnsTheGivenListRow.holds Try.pinned (OpenSpec.ofChange fnGroupNodesReturnsTheGivenListWrong)

/-- 'zzlaws_selector_b1.FnGroupNodesIsAFreshCopy': WHATEVER THE INPUT: true; the input reads as it did. -/
def fnGroupNodesIsAFreshCopySpec : ChangeSpec := { name := "fnGroupNodesIsAFreshCopy", fn := fun _ => fun
  | [d] => { results := [.lit (.bool true)], args := [d] }
  | _ => none }
def fnGroupNodesIsAFreshCopyRow : OpenClaim := { program := "qxb6616364a", sum := "092a1a2d6e5ea4fec0ab47c339f08ec00d696b26462fad992d4633908423a325", func := "example.com/proxy-node-picker/proxy-node-picker/zzlaws_selector_b1.FnGroupNodesIsAFreshCopy", spec := "fnGroupNodesIsAFreshCopy", inPlace := ["(*internal/sync.Mutex).Lock", "internal/race.Disable", "sync/atomic.CompareAndSwapInt32", "internal/race.Enable", "internal/race.Acquire", "(*internal/sync.Mutex).lockSlow", "internal/sync.runtime_canSpin", "internal/sync.runtime_doSpin", "internal/sync.throw", "internal/sync.runtime_nanotime", "internal/sync.runtime_SemacquireMutex", "sync/atomic.AddInt32", "(*internal/sync.Mutex).Unlock", "internal/race.ReleaseMerge", "(*internal/sync.Mutex).unlockSlow", "internal/sync.fatal", "internal/sync.runtime_Semrelease", "weak.runtime_makeStrongFromWeak", "internal/abi.Escape[*example.com/proxy-node-picker/proxy-node-picker/selector.watch]", "weak.runtime_registerWeakPointer", "runtime.KeepAlive"], unfollowed := true, recurses := true, apart := false }
def FnGroupNodesIsAFreshCopySaid : Prop := fnGroupNodesIsAFreshCopyRow.holds Try.pinned (OpenSpec.ofChange fnGroupNodesIsAFreshCopySpec)

/-- ITS FALSE NEIGHBOUR: 'it returns false'. Refute it at one input. -/
def fnGroupNodesIsAFreshCopyWrong : ChangeSpec := { name := "fnGroupNodesIsAFreshCopy", fn := fun _ => fun
  | [d] => { results := [.lit (.bool false)], args := [d] }
  | _ => none }
def FnGroupNodesIsAFreshCopyWrongFalsely : Prop := fnGroupNodesIsAFreshCopyRow.holds Try.pinned (OpenSpec.ofChange fnGroupNodesIsAFreshCopyWrong)

end Rows
end Go.Proofs.Qxb6616364a
