/-
  SEAT b6625994a. take (function 24) AND ZZtake (function 11), WHERE AN ENTRY WAITS OR THE SUBMISSION IS CLOSED.
-/
import Derived.Test.Qxb6625994aSub
namespace Go.Proofs.Qxb6625994a
open Go Go.RowKit Go.MuLone

set_option maxRecDepth 100000 in
set_option maxHeartbeats 1600000 in
theorem take24_any (S : Nat) (a : Option Addr) (n c : Nat) (bytes added : Int) (cl : Bool) (w : World)
    (hs : Hid (Sub w S a n c bytes added cl)) (hg : n = 0 → cl = true) :
    Calls Try.prog 24 #[.pointer (some ⟨S, 0, none⟩)] w fun e w' => e = .returned (.slice a n c) ∧ Apart S w w' ∧ Sub w' S none 0 0 0 added cl := by
  obtain ⟨C, hC, hsz, c3, c6, c7, c11, c12, c13, c14, ⟨ch, c15⟩, c16⟩ := hs.out
  have k3 : w.cell? ⟨S, 3, none⟩ = some (.int .i32 0) := by rw [cell_at hC]; exact c3
  have k12 : w.cell? ⟨S, 12, none⟩ = some (.slice a n c) := by rw [cell_at hC]; exact c12
  have k13 : w.cell? ⟨S, 13, none⟩ = some (.int .i64 bytes) := by rw [cell_at hC]; exact c13
  have k14 : w.cell? ⟨S, 14, none⟩ = some (.bool cl) := by rw [cell_at hC]; exact c14
  have kz : ∀ i, w.frozen? ⟨S, i, none⟩ = false := frozen_at hC
  have HC : Hid (w.heap[S]? = some (.cells C 61 (0, 0)) ∧ Cells S C 0 a n c bytes added cl) := ⟨hC, hsz, c3, c6, c7, c11, c12, c13, c14, ⟨ch, c15⟩, c16⟩
  have HK : Hid (Cells S (((C.setIfInBounds 3 (.int .i32 1)).setIfInBounds 12 (.slice none 0 0)).setIfInBounds 13 (.int .i64 0)) 1 none 0 0 0 added cl) := ((HC.out.2.put3 1).put12 none 0 0).put13 0
  have HP : Hid (Apart S w (((w.setCell ⟨S, 3, none⟩ (.int .i32 1)).setCell ⟨S, 12, none⟩ (.slice none 0 0)).setCell ⟨S, 13, none⟩ (.int .i64 0)) ∧ (((w.setCell ⟨S, 3, none⟩ (.int .i32 1)).setCell ⟨S, 12, none⟩ (.slice none 0 0)).setCell ⟨S, 13, none⟩ (.int .i64 0)).heap[S]? = some (.cells (((C.setIfInBounds 3 (.int .i32 1)).setIfInBounds 12 (.slice none 0 0)).setIfInBounds 13 (.int .i64 0)) 61 (0, 0))) := ⟨(((Apart.refl S w).put _ _).put _ _).put _ _, heap_put _ (heap_put _ (heap_put _ hC))⟩
  clear hC hsz c3 c6 c7 c11 c12 c13 c14 c15 c16
  by_cases h0 : n = 0
  · obtain rfl := hg h0
    subst h0
    clear hg
    go_enter_defers Try.func24, Try.ntmps24
    go_wp2_with fail
    refine (lock_free muLib ⟨S, 3, none⟩ _ k3 (kz 3)).mono ?_
    rintro e w1 ⟨rfl, rfl⟩
    go_wp2_with fail
    go_loop [27] (fun _ => True) (fun _ => 0)
    case atStart => trivial
    case round =>
      go_wp2_with fail
      refine (broadcast_any S _ _ ⟨HP.out.2, HK.out.1⟩ HK.out.2.2.1 HK.out.2.2.2.1 HK.out.2.2.2.2.1).mono ?_
      rintro e w5 ⟨rfl, hA, C', hC', hs', hrest, h11'⟩
      have H5 : Hid (Apart S w w5 ∧ w5.heap[S]? = some (.cells C' 61 (0, 0)) ∧ Cells S C' 1 none 0 0 0 added true) := ⟨HP.out.1.trans hA, hC', HK.out.check hs' hrest h11'⟩
      clear hA hC' hs' hrest h11'
      go_wp2_with fail
      refine leaves_cons (f := 21) (args := #[.pointer (some ⟨S, 3, none⟩)]) (by simp) (by simp [go_sem]) ?_
      refine (unlock_deferred muLib ⟨S, 3, none⟩ .returning _ ((cell_at H5.out.2.1 3).trans H5.out.2.2.2.1) (frozen_at H5.out.2.1 3)).mono ?_
      rintro e u' w'' ⟨rfl, rfl, rfl⟩
      exact ⟨_, results_tmp rfl _ _ _, rfl, H5.out.1.put 3 (.int .i32 0), _, heap_put _ H5.out.2.1, H5.out.2.2.put3 0⟩
  · have h0' : ((n : Int) == 0) = false := by simp; omega
    clear hg
    go_enter_defers Try.func24, Try.ntmps24
    go_wp2_with fail
    refine (lock_free muLib ⟨S, 3, none⟩ _ k3 (kz 3)).mono ?_
    rintro e w1 ⟨rfl, rfl⟩
    go_wp2_with fail
    go_loop [27] (fun _ => True) (fun _ => 0)
    case atStart => trivial
    case round =>
      go_wp2_with fail
      refine (broadcast_any S _ _ ⟨HP.out.2, HK.out.1⟩ HK.out.2.2.1 HK.out.2.2.2.1 HK.out.2.2.2.2.1).mono ?_
      rintro e w5 ⟨rfl, hA, C', hC', hs', hrest, h11'⟩
      have H5 : Hid (Apart S w w5 ∧ w5.heap[S]? = some (.cells C' 61 (0, 0)) ∧ Cells S C' 1 none 0 0 0 added cl) := ⟨HP.out.1.trans hA, hC', HK.out.check hs' hrest h11'⟩
      clear hA hC' hs' hrest h11'
      go_wp2_with fail
      refine leaves_cons (f := 21) (args := #[.pointer (some ⟨S, 3, none⟩)]) (by simp) (by simp [go_sem]) ?_
      refine (unlock_deferred muLib ⟨S, 3, none⟩ .returning _ ((cell_at H5.out.2.1 3).trans H5.out.2.2.2.1) (frozen_at H5.out.2.1 3)).mono ?_
      rintro e u' w'' ⟨rfl, rfl, rfl⟩
      exact ⟨_, results_tmp rfl _ _ _, rfl, H5.out.1.put 3 (.int .i32 0), _, heap_put _ H5.out.2.1, H5.out.2.2.put3 0⟩

set_option maxHeartbeats 800000 in
theorem take_any (S : Nat) (a : Option Addr) (n c : Nat) (bytes added : Int) (cl : Bool) (w : World)
    (hs : Hid (Sub w S a n c bytes added cl)) (hg : Hid (n = 0 → cl = true)) :
    Calls Try.prog 11 #[.pointer (some ⟨S, 0, none⟩)] w fun e w' => e = .returned (.slice a n c) ∧ Apart S w w' ∧ Sub w' S none 0 0 0 added cl := by
  go_enter Try.func11, Try.ntmps11
  go_wp2_with fail
  refine (take24_any S a n c bytes added cl w hs hg.out).mono ?_
  rintro e w1 ⟨rfl, hA, hS⟩
  have H : Hid (Apart S w w1 ∧ Sub w1 S none 0 0 0 added cl) := ⟨hA, hS⟩
  clear hA hS
  go_wp2_with fail
  go_ret
  exact ⟨rfl, H.out⟩
end Go.Proofs.Qxb6625994a
