/-
  SEAT b6630604a. FnHexRuneSplitsAtAnyCutAndKeepsHexTail (function 4): a cut outside the slice, a nil slice, a slice too long.
-/
import Derived.Test.Qxb6630604aCut
namespace Go.Proofs.Qxb6630604a
open Go Go.RowKit

set_option maxHeartbeats 1600000 in
set_option maxRecDepth 100000 in
theorem cut_out (a : Addr) (n c b off : Nat) (x : Int) (z : Nat → Int) (w : World) (h : Hid (Row w (some a) n b off z)) (hn : n ≤ 65536) (hx : x < 0 ∨ (0 ≤ x ∧ (n : Int) < x)) :
    Calls Try.prog 4 #[.slice (some a) n c, .int .i64 x] w fun e w' => e = .returned (.bool true) ∧ Below w.heap.size w w' := by
  have hnn := fun wx => run_neq_slice_nil_any (P := Try.prog) wx 22 5 (some a) n c 0 0 Try.underlying22
  have hmk := run_make_row' (P := Try.prog) 22 5 (.int .u8 0) 1 Try.underlying22 (by kernel_rfl) rfl .i64 .i64 n (by omega) (by omega)
  obtain ⟨V, hcp, bV, -⟩ := copy_made a n c b off z w h.out
  have hd : decide (65536 < (n : Int)) = false := by simp; omega
  rcases hx with hx | ⟨hx, hx'⟩
  all_goals
    go_enter Try.func4, Try.ntmps4
    go_wp2_with fail
    refine (bytes8_any (some a) n c _ w (by omega)).mono ?_
    rintro e w1 ⟨r, rfl, rfl⟩
    cases r
    · go_wp2
      go_ret
      exact ⟨rfl, Below.refl _ _⟩
    · go_wp2
      go_ret
      exact ⟨rfl, bV⟩

set_option maxHeartbeats 1600000 in
set_option maxRecDepth 100000 in
theorem cut_big (a : Option Addr) (n c : Nat) (x : Int) (w : World) (hm : (n : Int) ≤ 9223372036854775807) (hn : 65536 < (n : Int)) :
    Calls Try.prog 4 #[.slice a n c, .int .i64 x] w fun e w' => e = .returned (.bool true) ∧ Below w.heap.size w w' := by
  go_enter Try.func4, Try.ntmps4
  go_wp2_with fail
  refine (bytes8_any a n c _ w hm).mono ?_
  rintro e w1 ⟨r, rfl, rfl⟩
  cases r
  · go_wp2
    go_ret
    exact ⟨rfl, Below.refl _ _⟩
  · go_wp2
    go_ret
    exact ⟨rfl, Below.refl _ _⟩

set_option maxHeartbeats 1600000 in
set_option maxRecDepth 100000 in
theorem cut_nil_out (x : Int) (w : World) (hx : x < 0 ∨ 0 < x) :
    Calls Try.prog 4 #[.slice none 0 0, .int .i64 x] w fun e w' => e = .returned (.bool true) ∧ Below w.heap.size w w' := by
  have hnn := fun wx => run_neq_slice_nil_any (P := Try.prog) wx 22 5 none 0 0 0 0 Try.underlying22
  rcases hx with hx | hx
  all_goals
    go_enter Try.func4, Try.ntmps4
    go_wp2_with fail
    refine (bytes8_any none 0 0 _ w (by omega)).mono ?_
    rintro e w1 ⟨r, rfl, rfl⟩
    cases r
    · go_wp2
      go_ret
      exact ⟨rfl, Below.refl _ _⟩
    · go_wp2
      go_ret
      exact ⟨rfl, Below.refl _ _⟩

theorem rune_nil (w : World) : Calls Try.prog 7 #[.slice none 0 0] w fun e w' => e = .returned (.int .i32 0) ∧ w' = w := by
  have h := zzrune_any none 0 0 0 0 (fun _ => 0) w ⟨Or.inl rfl, fun i hi => by omega, fun i hi => by omega⟩ (by omega)
  rw [show R (fun _ => 0) 0 = 0 from rfl, rv_zero] at h
  exact h

set_option maxHeartbeats 1600000 in
set_option maxRecDepth 100000 in
theorem cut_nil (w : World) :
    Calls Try.prog 4 #[.slice none 0 0, .int .i64 0] w fun e w' => e = .returned (.bool true) ∧ Below w.heap.size w w' := by
  have hnn := fun wx => run_neq_slice_nil_any (P := Try.prog) wx 22 5 none 0 0 0 0 Try.underlying22
  go_enter Try.func4, Try.ntmps4
  go_wp2_with fail
  refine (bytes8_any none 0 0 _ w (by omega)).mono ?_
  rintro e w1 ⟨r, rfl, rfl⟩
  cases r
  · go_wp2
    go_ret
    exact ⟨rfl, Below.refl _ _⟩
  · go_wp2_with fail
    refine (rune_nil _).mono ?_
    rintro e w2 ⟨rfl, rfl⟩
    go_wp2_with fail
    refine (rune_nil _).mono ?_
    rintro e w3 ⟨rfl, rfl⟩
    go_wp2_with fail
    refine (rune_nil _).mono ?_
    rintro e w4 ⟨rfl, rfl⟩
    go_wp2_with fail
    go_loop [11, 12, 13, 14, 15, 16] (fun t11 t12 _ t14 _ _ => t11 = .int .i64 0 ∧ t12 = .int .u32 0 ∧ t14 = .int .i64 (-1)) (fun _ _ _ _ _ _ => 0)
    case atStart => exact ⟨rfl, rfl, rfl⟩
    case round =>
      obtain ⟨rfl, rfl, rfl⟩ := hrel
      go_wp2_with fail
      go_ret
      exact ⟨rfl, Below.refl _ _⟩
end Go.Proofs.Qxb6630604a
