/-
  SEAT b6628470aF. A START THAT FITS: the settled world, the three tables holding what their initialisers lay. And from 'laid' to the table of powers of ten.
-/
import Derived.Test.Qxb6628470aFmtShelf
import Derived.ProofKit
import Derived.Stop.JoinedAt
import Derived.Stop.Joined
import Derived.Lib.LaidIn
import Derived.Lib.LaidTab
import Derived.Stop.LaidErr
namespace Go.Proofs.Qxb6628470aFmt
open Go

/-- The cells of an array of integers, as it is listed. -/
def tabCells (d : DataW Unit) : Array Value :=
  match d with
  | .agg ds => (ds.map fun x => match x with | .lit (.int k n) => Value.int k n | _ => Value.int .u8 0).toArray
  | _ => #[]

def putCells (h : Array Obj) (g : Nat) (cs : Array Value) : Array Obj := h.modify g fun
  | .cells _ t frozen => .cells cs t frozen
  | o => o

/-- The three tables laid. -/
def withTabs (w : World) : World :=
  { w with heap := putCells (putCells (putCells w.heap 0 (tabCells Rows.laid_internal_strconv_uint64pow10)) 1 (tabCells Rows.laid_math_bits_deBruijn32tab)) 2 (tabCells Rows.laid_math_bits_deBruijn64tab) }

set_option maxRecDepth 1000000 in
theorem laid_met (os : Os) (args : Array Value) : laidMet Tryf.prog Rows.fnPathParsesBackRow.laid ((withTabs (World.holding Tryf.prog os ⟨#[], args, []⟩)).forCall (fun _ _ => 0) ⟨#[], args, []⟩).memory :=
  (LaidIn.of_run [1, 2, 0] 10 (by kernel_rfl) (by kernel_rfl) (by kernel_rfl) (by kernel_rfl)).met

theorem pow_listed : (Rows.laid_internal_strconv_uint64pow10 : DataW Unit) = Lib.tabData .u64 Lib.pow10Tab := by kernel_rfl

/-- From the row's list to the table. -/
theorem tab_of_laid {W : World} (h : laidMet Tryf.prog Rows.fnPathParsesBackRow.laid W) : Tab W := by
  have h0 : laidMet Tryf.prog (_ :: _ :: (powName, Rows.laid_internal_strconv_uint64pow10) :: []) W := h
  have h2 := h0.tail.tail
  rw [pow_listed] at h2
  exact Lib.tabIs_of_head (g := 0) (t := 47) (e := 22) (n := 20) powGlobal (by kernel_rfl) Tryf.underlying47 Tryf.underlying22 (by kernel_rfl) (by kernel_rfl) h2
end Go.Proofs.Qxb6628470aFmt
