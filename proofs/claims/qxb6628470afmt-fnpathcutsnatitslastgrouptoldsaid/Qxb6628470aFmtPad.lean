/-
  SEAT b6628470aF. THE WALK OF pad3 (function 8).
-/
import Derived.Test.Qxb6628470aFmtFacts
import Derived.WalkKit
import Derived.WalkSpells
import Derived.WalkLawsBesides
import Derived.Below
import Derived.Outline
import Derived.Laws.BytesArg
namespace Go.Proofs.Qxb6628470aFmt
open Go Go.RowKit

theorem d3_nums (g : Nat) : strOfNums [48 + (g : Int) / 100 % 10, 48 + (g : Int) / 10 % 10, 48 + (g : Int) % 10] = S (d3 g) := by
  unfold strOfNums S d3
  have e1 : (48 + (g : Int) / 100 % 10).toNat = 48 + g / 100 % 10 := by omega
  have e2 : (48 + (g : Int) / 10 % 10).toNat = 48 + g / 10 % 10 := by omega
  have e3 : (48 + (g : Int) % 10).toNat = 48 + g % 10 := by omega
  simp [e1, e2, e3]

set_option maxHeartbeats 800000 in
theorem pad3_any (g : Nat) (w : World) (hg : g < 1000) :
    Calls Tryf.prog 8 #[.int .u64 g] w fun e w' => e = .returned (.string (S (d3 g))) ∧ Below w.heap.size w w' := by
  have hcv := fun (x0 x1 x2 : Int) => run_convert_bytes_arg (P := Tryf.prog) (w.alloc (Obj.cells #[.int .u8 x0, .int .u8 x1, .int .u8 x2] 39)) 38 5 Tryf.underlying38 Tryf.underlying5 w.heap.size 0 3 3 [x0, x1, x2] rfl
    (fun i hi => by
      rcases i with _ | _ | _ | i
      · go_simp
      · go_simp
      · go_simp
      · omega) 9 Tryf.underlying9
  go_enter Tryf.func8, Tryf.ntmps8
  go_wp2
  go_ret
  exact ⟨by rw [d3_nums]; rfl, (Below.refl _ _).alloc (Nat.le_refl _) _⟩
end Go.Proofs.Qxb6628470aFmt
