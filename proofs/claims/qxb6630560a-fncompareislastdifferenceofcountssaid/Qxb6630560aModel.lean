/-
  SEAT b6630560a. THE WALK OF modelCompare (function 9): the ascending walk comes to the same number.
-/
import Derived.Test.Qxb6630560aValid
namespace Go.Proofs.Qxb6630560a
open Go Go.RowKit

set_option maxHeartbeats 3200000 in
set_option maxRecDepth 100000 in
theorem model_any (a0 a1 a2 a3 : Option Addr) (n0 n1 c0 c1 c2 c3 b0 b1 b2 b3 o0 o1 o2 o3 : Nat) (r0 s0 r1 s1 : Nat → Int) (w : World)
    (h0 : Hid (Row w a0 n0 b0 o0 r0)) (h1 : Hid (Row w a1 n0 b1 o1 s0)) (h2 : Hid (Row w a2 n1 b2 o2 r1)) (h3 : Hid (Row w a3 n1 b3 o3 s1)) (hn0 : n0 ≤ 32768) (hn1 : n1 ≤ 32768) (hV : Hid (Valid r0 s0 n0)) (hO : Hid (Valid r1 s1 n1)) :
    Calls Try.prog 9 #[.slice a0 n0 c0, .slice a1 n0 c1, .slice a2 n1 c2, .slice a3 n1 c3] w fun e w' => e = .returned (.int .i64 (cmpR (pre r0 s0 n0) (pre r1 s1 n1))) ∧ ∃ q, w' = w.drewN q := by
  go_enter Try.func9, Try.ntmps9
  go_wp2
  go_loopw [9, 10, 11, 12, 13] (fun t9 t10 t11 _ _ wr => ∃ (i j : Nat) (x : Int), i ≤ n0 ∧ j ≤ n1 ∧ Hid (Sync r0 r1 n0 n1 i j) ∧ Hid (x = cmpR (pre r0 s0 i) (pre r1 s1 j)) ∧ t9 = .int .i64 (i : Int) ∧ t10 = .int .i64 (j : Int) ∧ t11 = .int .i64 x ∧ ∃ q, wr = w.drewN q) (fun t9 t10 _ _ _ _ => n0 + n1 - (intOf t9).toNat - (intOf t10).toNat)
  case atStart => exact ⟨0, 0, 0, by omega, by omega, ⟨fun h => by omega, fun h => by omega⟩, rfl, rfl, rfl, rfl, 0, rfl⟩
  case round =>
    obtain ⟨i, j, x, hi, hj, hS, hX, rfl, rfl, rfl, q, rfl⟩ := hrel
    by_cases hj1 : j < n1
    · by_cases hi1 : i < n0
      · have i0 := h0.out.index c0 i (i : Int) rfl hi1
        have e0 := h0.out.2.1 i hi1
        have i1 := h1.out.index c1 i (i : Int) rfl hi1
        have e1 := h1.out.2.1 i hi1
        have p1 := hV.out.1 i hi1
        have i2 := h2.out.index c2 j (j : Int) rfl hj1
        have e2 := h2.out.2.1 j hj1
        have i3 := h3.out.index c3 j (j : Int) rfl hj1
        have e3 := h3.out.2.1 j hj1
        have p3 := hO.out.1 j hj1
        have hd : decide (n1 ≤ j) = false := by simp; omega
        have hd' : decide (n0 ≤ i) = false := by simp; omega
        by_cases hr : r0 i < r1 j
        · have HX : Hid ((1 : Int) = cmpR (pre r0 s0 (i + 1)) (pre r1 s1 j)) := (cmp_left i j fun h => hS.out.2 h hi1).symm
          have HS : Hid (Sync r0 r1 n0 n1 (i + 1) j) := hS.out.left hV.out hi1 fun _ => hr
          go_wp2
          go_quiet (fail)
          go_wp2
          go_roundw
          case rel => exact ⟨i + 1, j, 1, by omega, by omega, HS, HX, by go_num, rfl, rfl, _, rfl⟩
          case measure => simp [intOf]; omega
        · by_cases hr2 : r1 j < r0 i
          · have HX : Hid ((-1 : Int) = cmpR (pre r0 s0 i) (pre r1 s1 (j + 1))) := (cmp_right i j fun h => hS.out.1 h hj1).symm
            have HS : Hid (Sync r0 r1 n0 n1 i (j + 1)) := hS.out.right hO.out hj1 fun _ => hr2
            go_wp2
            go_quiet (fail)
            go_wp2
            go_quiet (fail)
            go_wp2
            go_roundw
            case rel => exact ⟨i, j + 1, -1, by omega, by omega, HS, HX, rfl, by go_num, rfl, _, rfl⟩
            case measure => simp [intOf]; omega
          · have heq : r0 i = r1 j := by omega
            have HX : Hid (cmpR (pre r0 s0 (i + 1)) (pre r1 s1 (j + 1)) = if s1 j < s0 i then 1 else if s0 i < s1 j then -1 else cmpR (pre r0 s0 i) (pre r1 s1 j)) := cmp_both i j heq
            have HS : Hid (Sync r0 r1 n0 n1 (i + 1) (j + 1)) := Sync.both hV.out hO.out heq
            clear heq
            by_cases hs1 : s1 j < s0 i
            · rw [Hid, if_pos hs1] at HX
              have HX' : Hid ((1 : Int) = cmpR (pre r0 s0 (i + 1)) (pre r1 s1 (j + 1))) := HX.symm
              clear HX
              go_wp2
              go_quiet (fail)
              go_wp2
              go_quiet (fail)
              go_wp2
              go_roundw
              case rel => exact ⟨i + 1, j + 1, 1, by omega, by omega, HS, HX', by go_num, by go_num, rfl, _, rfl⟩
              case measure => simp [intOf]; omega
            · rw [Hid, if_neg hs1] at HX
              by_cases hs2 : s0 i < s1 j
              · rw [if_pos hs2] at HX
                have HX' : Hid ((-1 : Int) = cmpR (pre r0 s0 (i + 1)) (pre r1 s1 (j + 1))) := HX.symm
                clear HX
                go_wp2
                go_quiet (fail)
                go_wp2
                go_quiet (fail)
                go_wp2
                go_roundw
                case rel => exact ⟨i + 1, j + 1, -1, by omega, by omega, HS, HX', by go_num, by go_num, rfl, _, rfl⟩
                case measure => simp [intOf]; omega
              · rw [if_neg hs2, ← hX.out] at HX
                have HX' : Hid (x = cmpR (pre r0 s0 (i + 1)) (pre r1 s1 (j + 1))) := HX.symm
                clear HX
                go_wp2
                go_quiet (fail)
                go_wp2
                go_quiet (fail)
                go_wp2
                go_roundw
                case rel => exact ⟨i + 1, j + 1, x, by omega, by omega, HS, HX', by go_num, by go_num, rfl, _, rfl⟩
                case measure => simp [intOf]; omega
      · have i3 := h3.out.index c3 j (j : Int) rfl hj1
        have e3 := h3.out.2.1 j hj1
        have p3 := hO.out.1 j hj1
        have HX : Hid ((-1 : Int) = cmpR (pre r0 s0 i) (pre r1 s1 (j + 1))) := (cmp_right i j fun h => hS.out.1 h hj1).symm
        have HS : Hid (Sync r0 r1 n0 n1 i (j + 1)) := hS.out.right hO.out hj1 fun h => absurd h hi1
        have hd : decide (n1 ≤ j) = false := by simp; omega
        have hd' : decide (n0 ≤ i) = true := by simp; omega
        have hd2 : decide (i < n0) = false := by simp; omega
        go_wp2
        go_quiet (fail)
        go_wp2
        go_quiet (fail)
        go_wp2
        go_roundw
        case rel => exact ⟨i, j + 1, -1, by omega, by omega, HS, HX, rfl, by go_num, rfl, _, rfl⟩
        case measure => simp [intOf]; omega
    · by_cases hi1 : i < n0
      · have i1 := h1.out.index c1 i (i : Int) rfl hi1
        have e1 := h1.out.2.1 i hi1
        have p1 := hV.out.1 i hi1
        have hd : decide (n1 ≤ j) = true := by simp; omega
        have HX : Hid ((1 : Int) = cmpR (pre r0 s0 (i + 1)) (pre r1 s1 j)) := (cmp_left i j fun h => hS.out.2 h hi1).symm
        have HS : Hid (Sync r0 r1 n0 n1 (i + 1) j) := hS.out.left hV.out hi1 fun h => absurd h hj1
        go_wp2
        go_quiet (fail)
        go_wp2
        go_roundw
        case rel => exact ⟨i + 1, j, 1, by omega, by omega, HS, HX, by go_num, rfl, rfl, _, rfl⟩
        case measure => simp [intOf]; omega
      · go_wp2
        go_ret
        exact ⟨by rw [hX.out, show i = n0 by omega, show j = n1 by omega]; rfl, q, rfl⟩
end Go.Proofs.Qxb6630560a
