/-
  No cell of these rows narrows 'for every input' (looked for: loops, veiled, ifaces, maps, wideKeys, modest, calm, conditions, laid).
  DERIVED. THE GIVEN ROWS OF THIS SEAT. 2 by the template 'for every input the law returns true; each argument reads behind the call as it read before'; 0 by the template 'total and deterministic' (their statements: Qxb6625994aTotals.lean).
  GIVEN WITH THE SEED: the statements are not yours to turn. If you find one false, say at which input.
  Laid BY PROGRAM, IN A SANDBOX (cutbox-rows.mjs): the forced cells as the released guide's own fill.sh prints them over the translation 1245ba590ff6a24d… (all of the seat's roots in one cut). By AI agents, Wed Nov 11 2026. No macro, syntax, notation, axiom, sorry.
-/
import Derived.Test.Qxb6625994aChecked
import GoSem.Claim
import GoSem.ClaimJoined
import GoSem.ClaimMapViews
import Derived.JoinedTies
import Derived.KernelRfl
namespace Go.Proofs.Qxb6625994a
/- THE CELL 'sum', in the pinned program and in every row, IS THE sha256 OF THE DUMP (.gsa) THAT Qxb6625994aProg.lean LOADS. Nothing in Lean hashes anything: it is a label: what it is worth is what the hold of that sum in a sandbox is worth. -/
noncomputable def Try.pinned : Pinned := { name := "qxb6625994a", sum := "1245ba590ff6a24d9b108f551d3e6ac6d409a192772e66bba019caa876a1a10e", checked := Try.checked }
namespace Rows
def none {H : Type} : Left H := { results := [], args := [] }

/-- 'zzlaws_internal_collector_b1.FnTakeReturnsAddedInOrder': WHATEVER THE INPUT: true; the input reads as it did. -/
def fnTakeReturnsAddedInOrderSpec : ChangeSpec := { name := "fnTakeReturnsAddedInOrder", fn := fun _ => fun
  | [d1, d2, d3] => { results := [.lit (.bool true)], args := [d1, d2, d3] }
  | _ => none }
def fnTakeReturnsAddedInOrderRow : OpenClaim := { program := "qxb6625994a", sum := "1245ba590ff6a24d9b108f551d3e6ac6d409a192772e66bba019caa876a1a10e", func := "example.com/vantage/vantage/zzlaws_internal_collector_b1.FnTakeReturnsAddedInOrder", spec := "fnTakeReturnsAddedInOrder", inPlace := ["(*internal/sync.Mutex).Lock", "internal/race.Disable", "sync/atomic.CompareAndSwapInt32", "internal/race.Enable", "internal/race.Acquire", "(*internal/sync.Mutex).lockSlow", "internal/sync.runtime_canSpin", "internal/sync.runtime_doSpin", "internal/sync.throw", "internal/sync.runtime_nanotime", "internal/sync.runtime_SemacquireMutex", "sync/atomic.AddInt32", "(*internal/sync.Mutex).Unlock", "internal/race.ReleaseMerge", "(*internal/sync.Mutex).unlockSlow", "internal/sync.fatal", "internal/sync.runtime_Semrelease", "(*sync.Cond).Wait", "(*sync.copyChecker).check", "sync.runtime_notifyListAdd", "internal/race.Read", "sync.runtime_notifyListWait", "(*sync.Cond).Broadcast", "sync.runtime_notifyListNotifyAll"], unfollowed := true, recurses := true, apart := false }
def FnTakeReturnsAddedInOrderSaid : Prop := fnTakeReturnsAddedInOrderRow.holds Try.pinned (OpenSpec.ofChange fnTakeReturnsAddedInOrderSpec)

/-- ITS FALSE NEIGHBOUR: 'it returns false'. Refute it at one input. -/
def fnTakeReturnsAddedInOrderWrong : ChangeSpec := { name := "fnTakeReturnsAddedInOrder", fn := fun _ => fun
  | [d1, d2, d3] => { results := [.lit (.bool false)], args := [d1, d2, d3] }
  | _ => none }
def FnTakeReturnsAddedInOrderWrongFalsely : Prop := fnTakeReturnsAddedInOrderRow.holds Try.pinned (OpenSpec.ofChange fnTakeReturnsAddedInOrderWrong)

/-- 'zzlaws_internal_collector_b1.FnTakeDrainsAtAnyCut': WHATEVER THE INPUT: true; the input reads as it did. -/
def fnTakeDrainsAtAnyCutSpec : ChangeSpec := { name := "fnTakeDrainsAtAnyCut", fn := fun _ => fun
  | [d1, d2, d3] => { results := [.lit (.bool true)], args := [d1, d2, d3] }
  | _ => none }
def fnTakeDrainsAtAnyCutRow : OpenClaim := { program := "qxb6625994a", sum := "1245ba590ff6a24d9b108f551d3e6ac6d409a192772e66bba019caa876a1a10e", func := "example.com/vantage/vantage/zzlaws_internal_collector_b1.FnTakeDrainsAtAnyCut", spec := "fnTakeDrainsAtAnyCut", inPlace := ["(*internal/sync.Mutex).Lock", "internal/race.Disable", "sync/atomic.CompareAndSwapInt32", "internal/race.Enable", "internal/race.Acquire", "(*internal/sync.Mutex).lockSlow", "internal/sync.runtime_canSpin", "internal/sync.runtime_doSpin", "internal/sync.throw", "internal/sync.runtime_nanotime", "internal/sync.runtime_SemacquireMutex", "sync/atomic.AddInt32", "(*internal/sync.Mutex).Unlock", "internal/race.ReleaseMerge", "(*internal/sync.Mutex).unlockSlow", "internal/sync.fatal", "internal/sync.runtime_Semrelease", "(*sync.Cond).Wait", "(*sync.copyChecker).check", "sync.runtime_notifyListAdd", "internal/race.Read", "sync.runtime_notifyListWait", "(*sync.Cond).Broadcast", "sync.runtime_notifyListNotifyAll"], unfollowed := true, recurses := true, apart := false }
def FnTakeDrainsAtAnyCutSaid : Prop := fnTakeDrainsAtAnyCutRow.holds Try.pinned (OpenSpec.ofChange fnTakeDrainsAtAnyCutSpec)

/-- ITS FALSE NEIGHBOUR: 'it returns false'. Refute it at one input. -/
def fnTakeDrainsAtAnyCutWrong : ChangeSpec := { name := "fnTakeDrainsAtAnyCut", fn := fun _ => fun
  | [d1, d2, d3] => { results := [.lit (.bool false)], args := [d1, d2, d3] }
  | _ => none }
def FnTakeDrainsAtAnyCutWrongFalsely : Prop := fnTakeDrainsAtAnyCutRow.holds Try.pinned (OpenSpec.ofChange fnTakeDrainsAtAnyCutWrong)

end Rows
end Go.Proofs.Qxb6625994a
