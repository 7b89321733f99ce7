/-
  SEAT b6625994a. THE LOCK's LINK AND (*sync.Cond).Broadcast (function 23) WHERE NOBODY WAITS.
-/
import Derived.Test.Qxb6625994aRows
import Derived.WalkKit
import Derived.WalkSpells
import Derived.WalkLawsBesides
import Derived.Below
import Derived.Outline
import Derived.Conc.MuLone
import Derived.Laws.Externs
import Derived.Laws.LoneSync
import Derived.Defers
namespace Go.Proofs.Qxb6625994a
open Go Go.RowKit

abbrev muLink : Go.Conc.Locks.MuLink := { lock := 20, unlock := 21, ilock := 25, iunlock := 26, lockSlow := 36, unlockSlow := 39, disable := 32, enable := 34, acquire := 35, relMerge := 37, cas32 := 33, add32 := 38, tMutex := 51, tIMutex := 49, tPMutex := 62, tPIMutex := 71, tPI32 := 73, tUP := 54, tNoCopy := 46, tU32 := 47 }
theorem muLib : Go.Conc.Locks.MuLib Try.prog muLink :=
  ⟨Try.func20, Try.func21, Try.func25, Try.func26, Try.func32, Try.func34, Try.func35, Try.func37, Try.func33, Try.func38, Try.underlying49, Try.runUnderlying49, Try.sizeOf49, Try.isAgg49, Try.zeroValue49, Try.underlying51, Try.runUnderlying51, Try.sizeOf51, Try.isAgg51, Try.zeroValue51, Try.underlying62, Try.runUnderlying62, Try.sizeOf62, Try.isAgg62, Try.zeroValue62, Try.underlying71, Try.runUnderlying71, Try.sizeOf71, Try.isAgg71, Try.zeroValue71, Try.underlying73, Try.runUnderlying73, Try.sizeOf73, Try.isAgg73, Try.zeroValue73, Try.underlying54, Try.runUnderlying54, Try.sizeOf54, Try.isAgg54, Try.zeroValue54, Try.underlying46, Try.runUnderlying46, Try.sizeOf46, Try.isAgg46, Try.zeroValue46, Try.underlying21, Try.runUnderlying21, Try.sizeOf21, Try.isAgg21, Try.zeroValue21, (by kernel_rfl)⟩

/-- The copy check, the first time: the cell is led to itself. -/
theorem check_first (a : Addr) (w : World) (hc : w.cell? a = some (.int .u64 0)) (hz : w.frozen? a = false) :
    (callFunc 27 #[.pointer (some a)]).run Try.prog w = .ok (.value (.tuple #[])) (w.setCell a (.pointer (some a))) := by
  rw [run_callFunc_extern Try.func27 (by kernel_rfl) (by kernel_rfl) (by kernel_rfl) (e := Extern.SyncCond.check) (by kernel_rfl)]
  refine (congrArg (fun s => (Sem.run Try.prog s w).andThen _) (show Extern.SyncCond.check #[.pointer (some a)] = asAddr (.pointer (some a)) >>= _ from rfl)).trans ?_
  simp [Extern.SyncCond.isSelf, asAddr, hc, hz, run_store Try.prog w a (.pointer (some a)) .atomic rfl, Result.andThen, Extern.SyncCond.none_]

/-- .. and from then on: nothing. -/
theorem check_again (a : Addr) (w : World) (hc : w.cell? a = some (.pointer (some a))) :
    (callFunc 27 #[.pointer (some a)]).run Try.prog w = .ok (.value (.tuple #[])) w := by
  rw [run_callFunc_extern Try.func27 (by kernel_rfl) (by kernel_rfl) (by kernel_rfl) (e := Extern.SyncCond.check) (by kernel_rfl)]
  refine (congrArg (fun s => (Sem.run Try.prog s w).andThen _) (show Extern.SyncCond.check #[.pointer (some a)] = asAddr (.pointer (some a)) >>= _ from rfl)).trans ?_
  simp [Extern.SyncCond.isSelf, asAddr, hc, Result.andThen, Extern.SyncCond.none_]

/-- Nobody waits: both counters are 0. -/
theorem notify_none (a : Addr) (w : World) (hc : w.cell? a = some (.int .u32 0)) (hd : w.cell? (a.add 1) = some (.int .u32 0)) :
    (callFunc 31 #[.pointer (some a)]).run Try.prog w = .ok (.value (.tuple #[])) w := by
  have h0 : w.cell? (a.add 0) = some (.int .u32 0) := hc
  have hw : IntKind.u32.wrap 0 = 0 := by decide
  rw [run_callFunc_extern Try.func31 (by kernel_rfl) (by kernel_rfl) (by kernel_rfl) (e := Extern.SyncCond.notifyAll) (by kernel_rfl)]
  simp [Extern.SyncCond.notifyAll, Extern.SyncCond.list, Extern.SyncCond.counter, h0, hd, hw, Result.andThen, Extern.SyncCond.none_]

end Go.Proofs.Qxb6625994a
