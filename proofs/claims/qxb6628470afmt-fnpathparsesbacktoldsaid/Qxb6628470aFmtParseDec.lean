/-
  SEAT b6628470aF. THE WALK OF parseDec (function 11): where a canonical decimal stands it reads that number.
-/
import Derived.Test.Qxb6628470aFmtRead3
import Derived.Test.Qxb6628470aFmtDec
namespace Go.Proofs.Qxb6628470aFmt
open Go Go.RowKit

/-- Behind place q no digit stands: the string ends there, or a slash follows. -/
def Ends (s : ByteArray) (q : Nat) : Prop := s.size = q ∨ ∃ h : q < s.size, (s[q]'h).toNat = 47

/-- The byte of digit j. -/
theorem digit_at {s : ByteArray} {p U j : Nat} (h : At s p (Lib.decDigits U)) (hj : j < (Lib.decDigits U).length) (hs : p + j < s.size) :
    ∃ c : Int, ((s[p + j]'hs).toNat : Int) = c ∧ 48 ≤ c ∧ c ≤ 57 ∧ ((vd ((Lib.decDigits U).take j) : Nat) : Int) * 10 + (c - 48) = ((vd ((Lib.decDigits U).take (j + 1)) : Nat) : Int) := by
  have hb := h.byte j hj hs
  have hd := dec_digit U _ (List.getElem_mem hj)
  have hv := vd_take_succ _ j hj
  refine ⟨_, rfl, ?_, ?_, ?_⟩
  · rw [hb]; omega
  · rw [hb]; omega
  · rw [hv, hb]; omega

theorem take_le_dec (U j : Nat) : vd ((Lib.decDigits U).take j) ≤ U := by
  have := vd_take_le (Lib.decDigits U) j
  rwa [vd_dec] at this

theorem no_over {a c : Int} (h : a * 10 + (c - 48) ≤ 9223372036854775808) (_h0 : 0 ≤ a) (h1 : 48 ≤ c) (h2 : c ≤ 57) : ¬ -a < (-9223372036854775808 + (c - 48)).tdiv 10 := by
  have e : (-9223372036854775808 + (c - 48)).tdiv 10 = -((9223372036854775808 - (c - 48)) / 10) := by
    rw [show -9223372036854775808 + (c - 48) = -(9223372036854775808 - (c - 48)) by omega, Int.neg_tdiv, Int.tdiv_eq_ediv_of_nonneg (by omega)]
  rw [e]
  omega

/-- A first digit 0 stands alone. -/
theorem zero_alone {s : ByteArray} {p U : Nat} (h : At s p (Lib.decDigits U)) (hs : p < s.size) : (Lib.decDigits U).length ≤ 1 ∨ (((s[p]'hs).toNat : Int) == 48) = false := by
  by_cases hU : U = 0
  · subst hU; left; decide +kernel
  · right
    have hb := h.byte 0 (dec_pos U) hs
    have hh := dec_head U (by omega)
    rw [← hb] at hh
    simp only [Nat.add_zero] at hh
    simp
    omega

set_option maxHeartbeats 1600000 in
theorem parseDec_pos (s : ByteArray) (p n U : Nat) (w : World) (hs : s.size ≤ 1000) (hU : Hid (U ≤ 9223372036854775807)) (hn : Hid ((Lib.decDigits U).length = n)) (h : Hid (At s p (Lib.decDigits U))) (he : Hid (Ends s (p + n))) :
    Calls Tryf.prog 11 #[.string s, .int .i64 (p : Int)] w fun e w' => e = .returned (.tuple #[.int .i64 (U : Int), .int .i64 ((p : Int) + n), .bool true]) ∧ w' = w := by
  have hn0 : 0 < n := by have := dec_pos U; have := hn.out; omega
  have hp : p + n ≤ s.size := by have := h.out.size (dec_pos U); have := hn.out; omega
  have hp0 : p < s.size := by omega
  have HZ : Hid ((Lib.decDigits U).length ≤ 1 ∨ (((s[p]'hp0).toNat : Int) == 48) = false) := zero_alone h.out hp0
  obtain ⟨c0, hc0, hc01, hc02, -⟩ := digit_at (j := 0) h.out (dec_pos U) hp0
  simp only [Nat.add_zero] at hc0
  have hc45 : (c0 == 45) = false := by simp; omega
  go_enter Tryf.func11, Tryf.ntmps11
  go_wp2
  go_loop [1, 11, 12] (fun t1 t11 _ => ∃ (j : Nat) (a : Int), j ≤ n ∧ 0 ≤ a ∧ a ≤ 9223372036854775807 ∧ Hid (a = (vd ((Lib.decDigits U).take j) : Nat)) ∧ t1 = .int .i64 ((p : Int) + j) ∧ t11 = .int .i64 (-a)) (fun t1 _ _ => p + n - (intOf t1).toNat)
  case atStart => exact ⟨0, 0, by omega, by omega, by omega, rfl, by go_num, rfl⟩
  case round =>
    obtain ⟨j, a, hj, ha0, ha1, hA, rfl, rfl⟩ := hrel
    by_cases hlt : j < n
    · have hpj : p + j < s.size := by omega
      obtain ⟨c, hc, hc1, hc2, hv⟩ := digit_at (j := j) h.out (by rw [hn.out]; exact hlt) hpj
      rw [← hA.out] at hv
      have HV : Hid (a * 10 + (c - 48) = ((vd ((Lib.decDigits U).take (j + 1)) : Nat) : Int)) := hv
      have hb : a * 10 + (c - 48) ≤ 9223372036854775807 := by have := take_le_dec U (j + 1); have := hU.out; omega
      clear hv
      go_wp2
      · exact absurd ‹-a < _› (no_over (by omega) ha0 hc1 hc2)
      · go_round
        case rel => exact ⟨j + 1, a * 10 + (c - 48), by omega, by omega, hb, HV.out, by go_num, by congr 1; omega⟩
        case measure => simp [intOf]; omega
    · obtain rfl : j = n := by omega
      have ha : a = (U : Int) := by rw [hA.out, List.take_of_length_le (by rw [hn.out]; exact Nat.le_refl _), vd_dec]
      have HA : Hid (a = (U : Int)) := ha
      clear ha
      rcases HZ.out with hz | hz
      · have hn1 : j ≤ 1 := by rw [← hn.out]; exact hz
        rcases he.out with hend | ⟨hq, hend⟩
        · have hge : s.size ≤ p + j := by omega
          clear hend hlt
          go_wp2
          all_goals
            go_ret3
            exact ⟨by rw [HA.out]; rfl, rfl⟩
        · have hq1 : ((s[p + j]'hq).toNat : Int) = 47 := by rw [hend]; rfl
          clear hend hlt
          go_wp2
          all_goals
            go_ret3
            exact ⟨by rw [HA.out]; rfl, rfl⟩
      · rw [hc0] at hz
        rcases he.out with hend | ⟨hq, hend⟩
        · have hge : s.size ≤ p + j := by omega
          clear hend hlt
          go_wp2
          all_goals
            go_ret3
            exact ⟨by rw [HA.out]; rfl, rfl⟩
        · have hq1 : ((s[p + j]'hq).toNat : Int) = 47 := by rw [hend]; rfl
          clear hend hlt
          go_wp2
          all_goals
            go_ret3
            exact ⟨by rw [HA.out]; rfl, rfl⟩
set_option maxHeartbeats 1600000 in
theorem parseDec_neg (s : ByteArray) (p n U : Nat) (w : World) (hs : s.size ≤ 1000) (hU : Hid (U ≤ 9223372036854775808)) (hU0 : Hid (0 < U)) (hn : Hid ((Lib.decDigits U).length = n)) (hm : p < s.size) (hm45 : ((s[p]'hm).toNat : Int) = 45) (h : Hid (At s (p + 1) (Lib.decDigits U))) (he : Hid (Ends s (p + 1 + n))) :
    Calls Tryf.prog 11 #[.string s, .int .i64 (p : Int)] w fun e w' => e = .returned (.tuple #[.int .i64 (-(U : Int)), .int .i64 ((p : Int) + 1 + n), .bool true]) ∧ w' = w := by
  have hn0 : 0 < n := by have := dec_pos U; have := hn.out; omega
  have hp : p + 1 + n ≤ s.size := by have := h.out.size (dec_pos U); have := hn.out; omega
  have hp0 : p + 1 < s.size := by omega
  have HZ : Hid ((Lib.decDigits U).length ≤ 1 ∨ (((s[p + 1]'hp0).toNat : Int) == 48) = false) := zero_alone h.out hp0
  obtain ⟨c0, hc0, hc01, hc02, -⟩ := digit_at (j := 0) h.out (dec_pos U) hp0
  simp only [Nat.add_zero] at hc0
  go_enter Tryf.func11, Tryf.ntmps11
  go_wp2
  go_loop [1, 11, 12] (fun t1 t11 _ => ∃ (j : Nat) (a : Int), j ≤ n ∧ 0 ≤ a ∧ a ≤ 9223372036854775808 ∧ Hid (a = (vd ((Lib.decDigits U).take j) : Nat)) ∧ t1 = .int .i64 ((p : Int) + 1 + j) ∧ t11 = .int .i64 (-a)) (fun t1 _ _ => p + 1 + n - (intOf t1).toNat)
  case atStart => exact ⟨0, 0, by omega, by omega, by omega, rfl, by go_num, rfl⟩
  case round =>
    obtain ⟨j, a, hj, ha0, ha1, hA, rfl, rfl⟩ := hrel
    by_cases hlt : j < n
    · have hpj : p + 1 + j < s.size := by omega
      obtain ⟨c, hc, hc1, hc2, hv⟩ := digit_at (j := j) h.out (by rw [hn.out]; exact hlt) hpj
      rw [← hA.out] at hv
      have HV : Hid (a * 10 + (c - 48) = ((vd ((Lib.decDigits U).take (j + 1)) : Nat) : Int)) := hv
      have hb : a * 10 + (c - 48) ≤ 9223372036854775808 := by have := take_le_dec U (j + 1); have := hU.out; omega
      clear hv
      go_wp2
      · exact absurd ‹-a < _› (no_over (by omega) ha0 hc1 hc2)
      · go_round
        case rel => exact ⟨j + 1, a * 10 + (c - 48), by omega, by omega, hb, HV.out, by go_num, by congr 1; omega⟩
        case measure => simp [intOf]; omega
    · obtain rfl : j = n := by omega
      have ha : a = (U : Int) := by rw [hA.out, List.take_of_length_le (by rw [hn.out]; exact Nat.le_refl _), vd_dec]
      have HA : Hid (a = (U : Int)) := ha
      have ha2 : 0 < a := by have := hU0.out; omega
      clear ha
      rcases HZ.out with hz | hz
      · have hn1 : j ≤ 1 := by rw [← hn.out]; exact hz
        rcases he.out with hend | ⟨hq, hend⟩
        · have hge : s.size ≤ p + 1 + j := by omega
          clear hend hlt
          go_wp2
          all_goals
            go_ret3
            exact ⟨by rw [HA.out]; rfl, rfl⟩
        · have hq1 : ((s[p + 1 + j]'hq).toNat : Int) = 47 := by rw [hend]; rfl
          clear hend hlt
          go_wp2
          all_goals
            go_ret3
            exact ⟨by rw [HA.out]; rfl, rfl⟩
      · rw [hc0] at hz
        rcases he.out with hend | ⟨hq, hend⟩
        · have hge : s.size ≤ p + 1 + j := by omega
          clear hend hlt
          go_wp2
          all_goals
            go_ret3
            exact ⟨by rw [HA.out]; rfl, rfl⟩
        · have hq1 : ((s[p + 1 + j]'hq).toNat : Int) = 47 := by rw [hend]; rfl
          clear hend hlt
          go_wp2
          all_goals
            go_ret3
            exact ⟨by rw [HA.out]; rfl, rfl⟩
end Go.Proofs.Qxb6628470aFmt
