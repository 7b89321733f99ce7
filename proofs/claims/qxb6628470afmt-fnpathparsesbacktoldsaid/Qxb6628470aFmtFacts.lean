/-
  SEAT b6628470aF. THE CLOSED FACTS FOR A WALK OVER fmt.Sprintf (function 9), after the guide's LabelFmt: what the call is, what each literal format asks, what a uint64 reads as; and the two texts, told.
-/
import Derived.Test.Qxb6628470aFmtRows
import Derived.Test.Qxb6628470aFmtPlain
import Derived.Stop.CallBack
import Derived.Stop.IfaceNil
import Derived.Stop.FmtTextKit
import Derived.Stop.Told
import Derived.Stop.Texts
namespace Go.Proofs.Qxb6628470aFmt
open Go Go.Extern.Stop Go.Stop Go.Extern Go.Kit
set_option maxRecDepth 100000

theorem call9 (args : Array Value) (w : World) : (callFunc 9 args).run Tryf.prog w = ((FmtStop.sprintf #[9, 69] #[9] args).run Tryf.prog w).andThen fun v w' => .ok (.value v) w' :=
  run_callFunc_extern Tryf.func9 (by kernel_rfl) (by kernel_rfl) (by kernel_rfl) (by kernel_rfl) args w

theorem guardF (name : String) (w : World) : (FmtStop.guard name).run Tryf.prog w = .ok () w := by kernel_rfl

theorem fmtA : FmtStop.printed? ⟨#[37, 48, 51, 100]⟩ 1 = some [(0, 100, false)] := by kernel_rfl
theorem fmtAr (w : World) : (FmtDoors.printed ⟨#[37, 48, 51, 100]⟩ 1).run Tryf.prog w = .ok [(0, 100, false)] w := by kernel_rfl
theorem fmtB : FmtStop.printed? ⟨#[120, 37, 48, 51, 100, 47]⟩ 1 = some [(0, 100, false)] := by kernel_rfl
theorem fmtBr (w : World) : (FmtDoors.printed ⟨#[120, 37, 48, 51, 100, 47]⟩ 1).run Tryf.prog w = .ok [(0, 100, false)] w := by kernel_rfl

def shape22 : List UInt8 := [9, 6, 0, 0, 0, 0, 0, 0, 0, 117, 105, 110, 116, 54, 52]
theorem op22 (name : String) (x : Int) (w : World) : (FmtStop.operand name false 100 false (.iface 22 (.int .u64 x))).run Tryf.prog w = .ok (shape22, Go.Extern.Stop.digits 8 (x % 2 ^ 64).toNat) w := by kernel_rfl

/-- What fmt is asked. -/
def readA (x : Int) : List (List UInt8) := [[37, 48, 51, 100], shape22, digits 8 (x % 18446744073709551616).toNat]
def readB (x : Int) : List (List UInt8) := [[120, 37, 48, 51, 100, 47], shape22, digits 8 (x % 18446744073709551616).toNat]

theorem parseA : (FmtText.parse [37, 48, 51, 100]).map FmtText.glue = some [.verb { widPresent := true, wid := 3, zero := true } 100] := by rfl
theorem parseB : (FmtText.parse [120, 37, 48, 51, 100, 47]).map FmtText.glue = some [.lit [120], .verb { widPresent := true, wid := 3, zero := true } 100, .lit [47]] := by rfl

theorem u64_wf {g : Nat} (h : g < 1000) : (Lit.int .u64 (g : Int)).wf = true := by
  have e1 : IntKind.u64.min = 0 := rfl
  have e2 : IntKind.u64.max = 18446744073709551615 := rfl
  simp [Lit.wf, e1, e2]
  omega

theorem textA (g : Nat) (h : g < 1000) : FmtText.text "fmt.Sprintf" (readA (g : Int)) = some (d3 g) := by
  have hi := FmtText.operand_int_at (sh := shape22) (k := .u64) rfl rfl (g : Int) (u64_wf h)
  rw [readA, FmtText.text_sprintf_glued parseA (FmtText.operands_cons hi FmtText.operands_nil)]
  simp [FmtText.render, FmtText.printArg_d_zero _ 3 _ (u64_wf h), zeros3 g h]

theorem textB (g : Nat) (h : g < 1000) : FmtText.text "fmt.Sprintf" (readB (g : Int)) = some (120 :: (d3 g ++ [47])) := by
  have hi := FmtText.operand_int_at (sh := shape22) (k := .u64) rfl rfl (g : Int) (u64_wf h)
  rw [readB, FmtText.text_sprintf_glued parseB (FmtText.operands_cons hi FmtText.operands_nil)]
  simp [FmtText.render, FmtText.printArg_d_zero _ 3 _ (u64_wf h), zeros3 g h]

/-- A string of these bytes. -/
def S (l : List UInt8) : ByteArray := ⟨l.toArray⟩

theorem S_append (a b : List UInt8) : S a ++ S b = S (a ++ b) := by
  apply ByteArray.ext
  simp [S, ByteArray.data_append]

theorem S_list (b : ByteArray) {l : List UInt8} (h : b.data.toList = l) : b = S l := by
  subst h
  apply ByteArray.ext
  simp [S]

theorem toldA (F : Interp) (g : Nat) (h : g < 1000) : FmtStop.textOf (F.told "fmt.Sprintf" (readA (g : Int)) 0) = S (d3 g) :=
  S_list _ (by rw [textOf_list, told_string F (textA g h) (by simp [d3])])

theorem toldB (F : Interp) (g : Nat) (h : g < 1000) : FmtStop.textOf (F.told "fmt.Sprintf" (readB (g : Int)) 0) = S (120 :: (d3 g ++ [47])) :=
  S_list _ (by rw [textOf_list, told_string F (textB g h) (by simp [d3])])

end Go.Proofs.Qxb6628470aFmt
