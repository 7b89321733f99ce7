/-
  SEAT b6628470aF. THE CARD OF FnPathCutsNAtItsLastGroup: told and tied.
-/
import Derived.Test.Qxb6628470aFmtCards
import Derived.Test.Qxb6628470aFmtTie
import Derived.Test.Qxb6628470aFmtStart
import Derived.Test.Qxb6628470aFmtCuts
import Derived.Stop.JoinedTold
import Derived.SevenTiedAt
import Derived.OpenShut
namespace Go.Proofs.Qxb6628470aFmt
open Go.ChangeShapes Go.WideShapes Go.ChangeAt Go.RowKit Go.Kit
open Go.Extern.Stop Go.Stop Go.Extern

theorem own : ownKnob Tryf.prog.godebug = none := by kernel_rfl

set_option maxRecDepth 1000000 in
theorem cuts_witness (os : Os) {H : Type} (enc : TypeId × Value → H) (F : Interp) :
    ∃ (w : World) (tape : Tape) (i : Input), w.os = os ∧ (w.forCall tape i).Shaped Tryf.checked.prog ∧ i.vars = [] ∧ Input.okWide Tryf.checked.prog (w.forCall tape i) .any w.heap.size 4 i ∧
      (OpenSpec.ofChange Rows.fnPathCutsNAtItsLastGroupSpec).preRow enc Tryf.checked.prog Tryf.f4 [] false Rows.fnPathParsesBackRow.laid (w.forCall tape i).memory i.args ∧ ({} : Assume).holds Tryf.checked.prog (lone (Frame.enter Tryf.checked.prog 4 i.args .normal) [] (w.forCall tape i)) ∧ F.answers tape :=
  OpenSpec.witness_stopped_at (enc := enc) (C := Tryf.checked) false (withTabs (World.holding Tryf.prog os ⟨#[], #[.int .i64 0, .int .u64 0, .int .i64 0], []⟩)) #[.int .i64 0, .int .u64 0, .int .i64 0] rfl (by kernel_rfl) (by kernel_rfl) (by kernel_rfl)
    (OpenSpec.preRow_of_B (laid := Rows.fnPathParsesBackRow.laid) rfl 8 (by kernel_rfl) (by kernel_rfl) (laid_met os _)) F

set_option maxRecDepth 100000 in
theorem cuts_lifted (os : Os) (started : os.Started) (H : Type) (enc : TypeId × Value → H) :
    ReturnsInTold none {} Tryf.checked os 4 .any Input.okWide ((OpenSpec.ofChange Rows.fnPathCutsNAtItsLastGroupSpec).preRow enc Tryf.prog Tryf.f4 [] false Rows.fnPathParsesBackRow.laid) (fun F => ((OpenSpec.ofChange Rows.fnPathCutsNAtItsLastGroupSpec).at F).post enc Tryf.prog Tryf.f4 false true false false) (aloneAtReturn Tryf.prog) nothingAlways := by
  refine returnsInTold_of_row (C := Tryf.checked) (s := OpenSpec.ofChange Rows.fnPathCutsNAtItsLastGroupSpec) (by kernel_rfl) own started (by kernel_rfl) Tryf.func4 (cuts_witness os enc) ?_
  intro F W base args ds gs before _ hF hval0 hW _ _ _ hL _
  have hval : ∀ (j : Nat) t v, Tryf.f4.params[j]? = some t → args[j]? = some v → Value.okWide Tryf.prog W .any base t v := hval0
  have hW' := hW
  obtain ⟨p, q, hA0, hV, rfl, hfz, hnd⟩ := hW
  have hA : DataW.TrodAll enc Tryf.prog W 0 (fun _ => true) true Tryf.f4.params.toList args.toList ds p := hA0
  rw [Tryf.params4] at hA hval
  obtain ⟨v0, v1, v2, d0, d1, d2, p0, p1, p2, rfl, rfl, rfl, h0, h1, h2⟩ := trodAll_three hA
  obtain ⟨rfl, rfl⟩ := trodVars_none hV
  obtain ⟨level, rfl, rfl, rfl, wl⟩ := open_int Tryf.underlying3 (hval 0 3 v0 rfl rfl) h0
  obtain ⟨n, rfl, rfl, rfl, wn⟩ := open_int Tryf.underlying22 (hval 1 22 v1 rfl rfl) h1
  obtain ⟨width, rfl, rfl, rfl, ww⟩ := open_int Tryf.underlying3 (hval 2 3 v2 rfl rfl) h2
  clear hA0 hval0
  have hT := tab_of_laid hL
  have bl := bounds_i64 wl
  have bn := bounds_u64 wn
  have bw := bounds_i64 ww
  refine (cuts_any F level n width W hF bn.1 bn.2 bl.1 bl.2 bw.1 bw.2 hT).mono fun e W' ⟨he, bel⟩ => ?_
  subst he
  refine ⟨_, rfl, _, _, _, [], [], [], hW', ?_, ?_, rfl, bel.frame _, fun h => by cases h⟩
  · exact trodAll_mk1 (shut_bool Tryf.underlying4 _)
  · exact trodAll_mk3 (shut_int Tryf.underlying3 wl) (shut_int Tryf.underlying22 wn) (shut_int Tryf.underlying3 ww)

theorem Tryf.laidOut : laidOutB Tryf.pinned.checked.prog = true := by kernel_rfl
theorem Tryf.stops : Tryf.pinned.checked.prog.stops = ["fmt.Sprintf"] := by kernel_rfl
theorem Tryf.stopKnobs : Tryf.pinned.checked.prog.stopKnobs = [] := by kernel_rfl
theorem Tryf.quiet (os : Os) : Stop.quiet Tryf.pinned.checked.prog os := by
  intro k hk
  rw [Tryf.stopKnobs] at hk
  cases hk

/-- ████ THE STATEMENT ████ -/
theorem cuts_proved : Rows.FnPathCutsNAtItsLastGroupToldSaid :=
  Claim7.holds_of_told_tied_any_at .later 4 Tryf.f4 "fmt.Sprintf" [] [] _ _ _ _ _ (by kernel_rfl) rfl rfl rfl Tryf.laidOut (by kernel_rfl) rfl ⟨rfl, rfl, rfl, rfl, rfl, rfl, rfl⟩ rfl rfl (by kernel_rfl) (by kernel_rfl) Tryf.func4 (by kernel_rfl)
    (of_decide_eq_true (by kernel_rfl)) (by unfold Func.isWrapper; first | (rw [if_pos (by decide +kernel)]; kernel_rfl) | (rw [if_neg (by decide +kernel)]; exact ⟨rfl, rfl⟩)) Tryf.stops.symm rfl Tryf.stopKnobs.symm (by kernel_rfl)
    (by kernel_rfl) (by kernel_rfl) (by kernel_rfl) (by kernel_rfl) (by kernel_rfl) (by kernel_rfl) (by kernel_rfl) (by kernel_rfl) (by kernel_rfl) rfl (by kernel_rfl) rfl rfl
    rfl rfl
    rfl (by kernel_rfl) (by kernel_rfl) (by kernel_rfl) (by decide) (by kernel_rfl) fnPathCutsNAtItsLastGroup_row_tie
    (OpenClaim.moreEntering_of (by kernel_rfl) (by kernel_rfl) (by kernel_rfl) (by kernel_rfl) (by kernel_rfl) (by kernel_rfl) (by kernel_rfl) (by kernel_rfl) (by kernel_rfl) (by kernel_rfl))
    ⟨_, WideRow.started_initial, Tryf.quiet _⟩
    (fun os started _ H enc _ => cuts_lifted os started H enc)

#print axioms cuts_proved
end Go.Proofs.Qxb6628470aFmt
