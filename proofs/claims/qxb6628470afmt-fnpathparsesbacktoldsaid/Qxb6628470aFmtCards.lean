/-
  DERIVED. GIVEN WITH THE SEED: THE CARDS: each row of Qxb6628470aFmtRows.lean that lists a variable, with what it lists TIED to the program's text (the seventh form; the later family's looks); each row that meets fmt, with fmt's text TOLD by the authors' own Lean function (tested against real Go, not proved from fmt's source: count such statements apart). THE CARD IS WHAT COUNTS. Prove the row's statement (the work); the ties are given (Qxb6628470aFmtTie.lean); close each card by the builder's one call (the guide's Derived/Test/ToyasCard.lean, 'card_holds'). Laid BY PROGRAM, IN A SANDBOX (cutbox-door.mjs). By AI agents, Wed Nov 11 2026. No macro, syntax, notation, axiom, sorry.
-/
import Derived.Test.Qxb6628470aFmtRows
import GoSem.ClaimSeven
namespace Go.Proofs.Qxb6628470aFmt
namespace Rows

/-- THE TOLD AND TIED CARD OF 'zzlaws_internal_tlog_b1.FnPathParsesBack'. -/
def fnPathParsesBackCard : Claim7 := { stood := { row := fnPathParsesBackRow, standIns := [], harness := (true, "2707f0d61c90effe26eba50f0fcfde8e416c1ad031a5037687dea06e49404f58"), looks := false }, told := true, laidByText := true, laidKinds := [.data, .data, .data], laidTests := true, laidLooks := .later, goes := false }
def FnPathParsesBackToldSaid : Prop := Claim7.holds Tryf.pinned (.plain (OpenSpec.ofChange fnPathParsesBackSpec)) fnPathParsesBackCard
/-- ITS FALSE NEIGHBOUR. Refute it at one input. -/
def FnPathParsesBackToldWrongFalsely : Prop := Claim7.holds Tryf.pinned (.plain (OpenSpec.ofChange fnPathParsesBackWrong)) fnPathParsesBackCard

/-- THE TOLD AND TIED CARD OF 'zzlaws_internal_tlog_b1.FnPathCutsNAtItsLastGroup'. -/
def fnPathCutsNAtItsLastGroupCard : Claim7 := { stood := { row := fnPathCutsNAtItsLastGroupRow, standIns := [], harness := (true, "2707f0d61c90effe26eba50f0fcfde8e416c1ad031a5037687dea06e49404f58"), looks := false }, told := true, laidByText := true, laidKinds := [.data, .data, .data], laidTests := true, laidLooks := .later, goes := false }
def FnPathCutsNAtItsLastGroupToldSaid : Prop := Claim7.holds Tryf.pinned (.plain (OpenSpec.ofChange fnPathCutsNAtItsLastGroupSpec)) fnPathCutsNAtItsLastGroupCard
/-- ITS FALSE NEIGHBOUR. Refute it at one input. -/
def FnPathCutsNAtItsLastGroupToldWrongFalsely : Prop := Claim7.holds Tryf.pinned (.plain (OpenSpec.ofChange fnPathCutsNAtItsLastGroupWrong)) fnPathCutsNAtItsLastGroupCard
end Rows
end Go.Proofs.Qxb6628470aFmt
