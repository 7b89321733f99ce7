/-
  SEAT b6628470aF. THE WALK OF FnPathParsesBack (function 3), AND ITS CARD: told and tied.
-/
import Derived.Test.Qxb6628470aFmtTile
import Derived.Test.Qxb6628470aFmtCards
import Derived.Test.Qxb6628470aFmtTie
import Derived.Test.Qxb6628470aFmtStart
import Derived.Stop.JoinedTold
import Derived.SevenTiedAt
import Derived.OpenShut
namespace Go.Proofs.Qxb6628470aFmt
open Go.ChangeShapes Go.WideShapes Go.ChangeAt Go.RowKit Go.Kit
open Go.Extern.Stop Go.Stop Go.Extern

theorem path_back_at (F : Interp) (level n : Int) (N k : Nat) (hn : n = (N : Int)) (width : Int) (w : World) (hF : F.told.answers w.tape) (hN : (N : Int) ≤ 18446744073709551615) (hk : Hid (Top N k))
    (hl0 : -9223372036854775808 ≤ level) (hl1 : level ≤ 9223372036854775807) (hw0 : -9223372036854775808 ≤ width) (hw1 : width ≤ 9223372036854775807) (hT : Tab w) :
    Calls Tryf.prog 5 #[.agg #[.int .i64 level, .int .u64 n, .int .i64 width]] w fun e w' => e = .returned (.string (S (pathL level N k width))) ∧ Below w.heap.size w w' := by
  subst hn
  exact path_any F level N k width w hF hN hk hl0 hl1 hw0 hw1 hT

theorem pathL_size (level : Int) (N k : Nat) (width : Int) (hk : k ≤ 6) (hl0 : -9223372036854775808 ≤ level) (hl1 : level ≤ 9223372036854775807) (hw0 : -9223372036854775808 ≤ width) (hw1 : width ≤ 9223372036854775807) : (S (pathL level N k width)).size ≤ 1000 := by
  have h1 := Lib.itoa_length_le level hl0 hl1
  have h2 := Lib.itoa_length_le width hw0 hw1
  rw [S_size, pathL]
  split
  · simp [G_length]; omega
  · simp [G_length]; omega

/-- What parseTilePath gives at a path. -/
theorem tile_at (level n : Int) (N k : Nat) (hn : n = (N : Int)) (width W : Int) (P : Bool) (w : World) (hN : (N : Int) ≤ 18446744073709551615) (hk : Top N k)
    (hl0 : -9223372036854775808 ≤ level) (hl1 : level ≤ 9223372036854775807) (hw0 : -9223372036854775808 ≤ width) (hw1 : width ≤ 9223372036854775807)
    (hWP : (width < 256 ∧ W = width ∧ P = true) ∨ (¬ width < 256 ∧ W = 0 ∧ P = false)) :
    Calls Tryf.prog 6 #[.string (S (pathL level N k width))] w fun e w' => e = .returned (.tuple #[.int .i64 level, .int .u64 n, .int .i64 W, .bool P, .bool true]) ∧ w' = w := by
  subst hn
  have hs := pathL_size level N k width (top_le hk hN) hl0 hl1 hw0 hw1
  refine tile_any _ level N k _ W P w hs hl0 hl1 (show N ≤ _ by omega) hk rfl (if width < 256 then 46 :: 112 :: 47 :: Lib.itoa width else []) (show _ = _ by simp [S, pathL]) ?_
  show _ ∨ _
  rcases hWP with ⟨h1, rfl, rfl⟩ | ⟨h1, rfl, rfl⟩
  · right; exact ⟨if_pos h1, rfl, h1, hw0⟩
  · left; exact ⟨if_neg h1, rfl, rfl⟩

set_option maxHeartbeats 800000 in
theorem back_part (F : Interp) (level n : Int) (N k : Nat) (width : Int) (w : World) (hF : F.told.answers w.tape) (hn : Hid (n = (N : Int))) (hn0 : 0 ≤ n) (hn1 : n ≤ 18446744073709551615) (hk : Hid (Top N k))
    (hl0 : -9223372036854775808 ≤ level) (hl1 : level ≤ 9223372036854775807) (hw0 : -9223372036854775808 ≤ width) (hw1 : width ≤ 9223372036854775807) (hT : Tab w) (hwid : width < 256) :
    Calls Tryf.prog 3 #[.int .i64 level, .int .u64 n, .int .i64 width] w fun e w' => e = .returned (.bool true) ∧ Below w.heap.size w w' := by
  go_enter Tryf.func3, Tryf.ntmps3
  go_wp2_with fail
  refine (path_back_at F level n N k hn.out width w hF (by have := hn.out; omega) hk hl0 hl1 hw0 hw1 hT).mono ?_
  rintro e w1 ⟨rfl, b1⟩
  go_wp2_with fail
  refine (tile_at level n N k hn.out width width true w1 (by have := hn.out; omega) hk.out hl0 hl1 hw0 hw1 (Or.inl ⟨hwid, rfl, rfl⟩)).mono ?_
  rintro e w2 ⟨rfl, rfl⟩
  go_wp2_with fail
  go_ret
  exact ⟨rfl, b1⟩

set_option maxHeartbeats 800000 in
theorem back_full (F : Interp) (level n : Int) (N k : Nat) (width : Int) (w : World) (hF : F.told.answers w.tape) (hn : Hid (n = (N : Int))) (hn0 : 0 ≤ n) (hn1 : n ≤ 18446744073709551615) (hk : Hid (Top N k))
    (hl0 : -9223372036854775808 ≤ level) (hl1 : level ≤ 9223372036854775807) (hw0 : -9223372036854775808 ≤ width) (hw1 : width ≤ 9223372036854775807) (hT : Tab w) (hwid : ¬ width < 256) :
    Calls Tryf.prog 3 #[.int .i64 level, .int .u64 n, .int .i64 width] w fun e w' => e = .returned (.bool true) ∧ Below w.heap.size w w' := by
  have hd : decide (width < 256) = false := by simpa using hwid
  go_enter Tryf.func3, Tryf.ntmps3
  go_wp2_with fail
  refine (path_back_at F level n N k hn.out width w hF (by have := hn.out; omega) hk hl0 hl1 hw0 hw1 hT).mono ?_
  rintro e w1 ⟨rfl, b1⟩
  go_wp2_with fail
  refine (tile_at level n N k hn.out width 0 false w1 (by have := hn.out; omega) hk.out hl0 hl1 hw0 hw1 (Or.inr ⟨by omega, rfl, rfl⟩)).mono ?_
  rintro e w2 ⟨rfl, rfl⟩
  go_wp2_with fail
  go_ret
  exact ⟨rfl, b1⟩

/-- Every index below 2^64 has a last group. -/
theorem top_exists (N : Nat) (h : (N : Int) ≤ 18446744073709551615) : ∃ k, Top N k := by
  have key : ∀ k, N < 1000 ^ (k + 1) → ∃ k, Top N k := by
    intro k
    induction k with
    | zero => intro h; exact ⟨0, Nat.div_eq_of_lt h, fun j h1 h2 => by omega⟩
    | succ k ih =>
      intro h
      by_cases hlt : N < 1000 ^ (k + 1)
      · exact ih hlt
      · refine ⟨k + 1, Nat.div_eq_of_lt h, fun j h1 h2 => Nat.div_pos ?_ (Nat.pow_pos (by decide))⟩
        exact Nat.le_trans (Nat.pow_le_pow_right (by decide) h2) (Nat.le_of_not_lt hlt)
  exact key 6 (by omega)

theorem back_any (F : Interp) (level n width : Int) (w : World) (hF : F.told.answers w.tape) (hn0 : 0 ≤ n) (hn1 : n ≤ 18446744073709551615)
    (hl0 : -9223372036854775808 ≤ level) (hl1 : level ≤ 9223372036854775807) (hw0 : -9223372036854775808 ≤ width) (hw1 : width ≤ 9223372036854775807) (hT : Tab w) :
    Calls Tryf.prog 3 #[.int .i64 level, .int .u64 n, .int .i64 width] w fun e w' => e = .returned (.bool true) ∧ Below w.heap.size w w' := by
  obtain ⟨N, hN⟩ : ∃ N : Nat, n = (N : Int) := ⟨n.toNat, by omega⟩
  obtain ⟨k, hk⟩ := top_exists N (by omega)
  by_cases hwid : width < 256
  · exact back_part F level n N k width w hF hN hn0 hn1 hk hl0 hl1 hw0 hw1 hT hwid
  · exact back_full F level n N k width w hF hN hn0 hn1 hk hl0 hl1 hw0 hw1 hT hwid

theorem own_knob : ownKnob Tryf.prog.godebug = none := by kernel_rfl

set_option maxRecDepth 1000000 in
theorem back_witness (os : Os) {H : Type} (enc : TypeId × Value → H) (F : Interp) :
    ∃ (w : World) (tape : Tape) (i : Input), w.os = os ∧ (w.forCall tape i).Shaped Tryf.checked.prog ∧ i.vars = [] ∧ Input.okWide Tryf.checked.prog (w.forCall tape i) .any w.heap.size 3 i ∧
      (OpenSpec.ofChange Rows.fnPathParsesBackSpec).preRow enc Tryf.checked.prog Tryf.f3 [] false Rows.fnPathParsesBackRow.laid (w.forCall tape i).memory i.args ∧ ({} : Assume).holds Tryf.checked.prog (lone (Frame.enter Tryf.checked.prog 3 i.args .normal) [] (w.forCall tape i)) ∧ F.answers tape :=
  OpenSpec.witness_stopped_at (enc := enc) (C := Tryf.checked) false (withTabs (World.holding Tryf.prog os ⟨#[], #[.int .i64 0, .int .u64 0, .int .i64 0], []⟩)) #[.int .i64 0, .int .u64 0, .int .i64 0] rfl (by kernel_rfl) (by kernel_rfl) (by kernel_rfl)
    (OpenSpec.preRow_of_B (laid := Rows.fnPathParsesBackRow.laid) rfl 8 (by kernel_rfl) (by kernel_rfl) (laid_met os _)) F

set_option maxRecDepth 100000 in
theorem back_lifted (os : Os) (started : os.Started) (H : Type) (enc : TypeId × Value → H) :
    ReturnsInTold none {} Tryf.checked os 3 .any Input.okWide ((OpenSpec.ofChange Rows.fnPathParsesBackSpec).preRow enc Tryf.prog Tryf.f3 [] false Rows.fnPathParsesBackRow.laid) (fun F => ((OpenSpec.ofChange Rows.fnPathParsesBackSpec).at F).post enc Tryf.prog Tryf.f3 false true false false) (aloneAtReturn Tryf.prog) nothingAlways := by
  refine returnsInTold_of_row (C := Tryf.checked) (s := OpenSpec.ofChange Rows.fnPathParsesBackSpec) (by kernel_rfl) own_knob started (by kernel_rfl) Tryf.func3 (back_witness os enc) ?_
  intro F W base args ds gs before _ hF hval0 hW _ _ _ hL _
  have hval : ∀ (j : Nat) t v, Tryf.f3.params[j]? = some t → args[j]? = some v → Value.okWide Tryf.prog W .any base t v := hval0
  have hW' := hW
  obtain ⟨p, q, hA0, hV, rfl, hfz, hnd⟩ := hW
  have hA : DataW.TrodAll enc Tryf.prog W 0 (fun _ => true) true Tryf.f3.params.toList args.toList ds p := hA0
  rw [Tryf.params3] at hA hval
  obtain ⟨v0, v1, v2, d0, d1, d2, p0, p1, p2, rfl, rfl, rfl, h0, h1, h2⟩ := trodAll_three hA
  obtain ⟨rfl, rfl⟩ := trodVars_none hV
  obtain ⟨level, rfl, rfl, rfl, wl⟩ := open_int Tryf.underlying3 (hval 0 3 v0 rfl rfl) h0
  obtain ⟨n, rfl, rfl, rfl, wn⟩ := open_int Tryf.underlying22 (hval 1 22 v1 rfl rfl) h1
  obtain ⟨width, rfl, rfl, rfl, ww⟩ := open_int Tryf.underlying3 (hval 2 3 v2 rfl rfl) h2
  clear hA0 hval0
  have hT := tab_of_laid hL
  have bl := bounds_i64 wl
  have bn := bounds_u64 wn
  have bw := bounds_i64 ww
  refine (back_any F level n width W hF bn.1 bn.2 bl.1 bl.2 bw.1 bw.2 hT).mono fun e W' ⟨he, bel⟩ => ?_
  subst he
  refine ⟨_, rfl, _, _, _, [], [], [], hW', ?_, ?_, rfl, bel.frame _, fun h => by cases h⟩
  · exact trodAll_mk1 (shut_bool Tryf.underlying4 _)
  · exact trodAll_mk3 (shut_int Tryf.underlying3 wl) (shut_int Tryf.underlying22 wn) (shut_int Tryf.underlying3 ww)

theorem back_laidOut : laidOutB Tryf.pinned.checked.prog = true := by kernel_rfl
theorem back_stops : Tryf.pinned.checked.prog.stops = ["fmt.Sprintf"] := by kernel_rfl
theorem back_stopKnobs : Tryf.pinned.checked.prog.stopKnobs = [] := by kernel_rfl
theorem back_quiet (os : Os) : Stop.quiet Tryf.pinned.checked.prog os := by
  intro k hk
  rw [back_stopKnobs] at hk
  cases hk

/-- ████ THE STATEMENT ████ -/
theorem back_proved : Rows.FnPathParsesBackToldSaid :=
  Claim7.holds_of_told_tied_any_at .later 3 Tryf.f3 "fmt.Sprintf" [] [] _ _ _ _ _ (by kernel_rfl) rfl rfl rfl back_laidOut (by kernel_rfl) rfl ⟨rfl, rfl, rfl, rfl, rfl, rfl, rfl⟩ rfl rfl (by kernel_rfl) (by kernel_rfl) Tryf.func3 (by kernel_rfl)
    (of_decide_eq_true (by kernel_rfl)) (by unfold Func.isWrapper; first | (rw [if_pos (by decide +kernel)]; kernel_rfl) | (rw [if_neg (by decide +kernel)]; exact ⟨rfl, rfl⟩)) back_stops.symm rfl back_stopKnobs.symm (by kernel_rfl)
    (by kernel_rfl) (by kernel_rfl) (by kernel_rfl) (by kernel_rfl) (by kernel_rfl) (by kernel_rfl) (by kernel_rfl) (by kernel_rfl) (by kernel_rfl) rfl (by kernel_rfl) rfl rfl
    rfl rfl
    rfl (by kernel_rfl) (by kernel_rfl) (by kernel_rfl) (by decide) (by kernel_rfl) fnPathParsesBack_row_tie
    (OpenClaim.moreEntering_of (by kernel_rfl) (by kernel_rfl) (by kernel_rfl) (by kernel_rfl) (by kernel_rfl) (by kernel_rfl) (by kernel_rfl) (by kernel_rfl) (by kernel_rfl) (by kernel_rfl))
    ⟨_, WideRow.started_initial, back_quiet _⟩
    (fun os started _ H enc _ => back_lifted os started H enc)

#print axioms back_proved
end Go.Proofs.Qxb6628470aFmt
