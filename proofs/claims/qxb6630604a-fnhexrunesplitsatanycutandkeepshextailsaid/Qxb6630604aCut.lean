/-
  SEAT b6630604a. THE WALK OF FnHexRuneSplitsAtAnyCutAndKeepsHexTail (function 4).
-/
import Derived.Test.Qxb6630604aPos
namespace Go.Proofs.Qxb6630604a
open Go Go.RowKit

theorem Row.head {w : World} {a : Option Addr} {len b off : Nat} {z : Nat → Int} (h : Row w a len b off z) (m : Nat) (hm : m ≤ len) : Row w a m b off z := by
  refine ⟨?_, fun i hi => h.2.1 i (by omega), fun i hi => h.2.2 i (by omega)⟩
  rcases h.1 with h0 | ha
  · left; omega
  · right; exact ha

theorem Row.tail {w : World} {g len : Nat} {z : Nat → Int} (h : Row w (some ⟨g, 0, none⟩) len g 0 z) (m : Nat) (hm : m ≤ len) : Row w (some ⟨g, m, none⟩) (len - m) g m (fun i => z (m + i)) := by
  refine ⟨Or.inr rfl, fun i hi => ?_, fun i hi => h.2.2 (m + i) (by omega)⟩
  have := h.2.1 (m + i) (by omega)
  rwa [Nat.zero_add] at this

/-- A rune shifted left: only its low 32 bits are told. -/
theorem shl_mod (x m : Nat) : IntKind.i32.wrap (rv x * 2 ^ min m 32) % 4294967296 = ((x <<< m : Nat) : Int) % 4294967296 := by
  rw [wrap32_mod, Nat.shiftLeft_eq]
  obtain ⟨q, hq⟩ : ∃ q : Int, rv x = (x : Int) + 4294967296 * q := ⟨(rv x - x) / 4294967296, by have := rv_mod x; omega⟩
  rcases Nat.lt_or_ge 32 m with h | h
  · rw [Nat.min_eq_right (by omega), show (2 : Int) ^ 32 = 4294967296 from rfl, Int.mul_emod_left]
    have e : x * 2 ^ m = 4294967296 * (x * 2 ^ (m - 32)) := by
      rw [show m = 32 + (m - 32) by omega, Nat.pow_add, show (2 : Nat) ^ 32 = 4294967296 from rfl, show 32 + (m - 32) - 32 = m - 32 by omega, ← Nat.mul_assoc, ← Nat.mul_assoc, Nat.mul_comm x]
    rw [e]
    omega
  · rw [Nat.min_eq_left h, hq, Int.add_mul, Int.mul_assoc, Int.natCast_mul]
    have e : ((2 ^ m : Nat) : Int) = (2 : Int) ^ m := by simp
    rw [e]
    omega

theorem shl_run (x m : Nat) (y : Int) (hy : y = (m : Int)) : ∃ sh : Int, sh % 4294967296 = ((x <<< m : Nat) : Int) % 4294967296 ∧ ∀ wx : World, (Op.shift .shl .i32 (rv x) .u64 y).run Try.prog wx = .ok (.int .i32 sh) wx := by
  subst hy
  refine ⟨_, shl_mod x m, fun wx => ?_⟩
  rw [shift_shl_any .i32 .u64 (rv x) (m : Int) (by omega)]
  rfl

theorem mask_and (a m : Nat) : bits .and .u32 (((a % 4294967296 : Nat)) : Int) ((2 ^ m - 1 : Nat) : Int) = ((a % 4294967296 % 2 ^ m : Nat) : Int) ∨ 32 < m := by
  rcases Nat.lt_or_ge 32 m with h | h
  · right; exact h
  · left
    have hp : 2 ^ m ≤ 2 ^ 32 := Nat.pow_le_pow_right (by decide) h
    have h0 : 0 < 2 ^ m := Nat.pow_pos (by decide)
    rw [u32_and_nat _ _ (Nat.mod_lt _ (by decide)) (by omega), Nat.and_two_pow_sub_one_eq_mod]

/-- Behind the mask the rune and the sum are one. -/
theorem mask_eq (z : Nat → Int) (n t m : Nat) (x : Int) (ht : t ≤ n) (h : ∀ j, j < t → isHex (z (n - 1 - j))) (hm : m ≤ 32) (hmt : m ≤ 4 * t) (hx : x = ((W z n t : Nat) : Int) % 4294967296) :
    bits .and .u32 (rv (R z n) % 4294967296) ((2 ^ m - 1 : Nat) : Int) = bits .and .u32 x ((2 ^ m - 1 : Nat) : Int) := by
  rw [rv_mod, hx, show ((R z n : Nat) : Int) % 4294967296 = ((R z n % 4294967296 : Nat) : Int) by omega, show ((W z n t : Nat) : Int) % 4294967296 = ((W z n t % 4294967296 : Nat) : Int) by omega]
  have d1 : 2 ^ m ∣ 4294967296 := Nat.pow_dvd_pow 2 hm
  have d2 : 2 ^ m ∣ 2 ^ (4 * t) := Nat.pow_dvd_pow 2 hmt
  rcases mask_and (R z n) m with h1 | h1
  · rcases mask_and (W z n t) m with h2 | h2
    · rw [h1, h2, Nat.mod_mod_of_dvd _ d1, Nat.mod_mod_of_dvd _ d1]
      have := R_tail_mod z n t ht h
      rw [← Nat.mod_mod_of_dvd _ d2, this, Nat.mod_mod_of_dvd _ d2]
    · omega
  · omega

theorem mask_low (z : Nat → Int) (n t : Nat) (x : Int) (ht : t ≤ n) (h : ∀ j, j < t → isHex (z (n - 1 - j))) (h8 : t < 8) (hx : x = ((W z n t : Nat) : Int) % 4294967296) :
    Hid (bits .and .u32 (rv (R z n) % 4294967296) (((2 : Int) ^ (4 * t) - 1) % 4294967296) = bits .and .u32 x (((2 : Int) ^ (4 * t) - 1) % 4294967296)) := by
  have := mask_eq z n t (4 * t) x ht h (by omega) (Nat.le_refl _) hx
  have hl : 2 ^ (4 * t) ≤ 2 ^ 28 := Nat.pow_le_pow_right (by decide) (by omega)
  have h0 : 0 < 2 ^ (4 * t) := Nat.pow_pos (by decide)
  have e2 : ((2 ^ (4 * t) : Nat) : Int) = (2 : Int) ^ (4 * t) := by simp
  have e3 : ((2 ^ (4 * t) - 1 : Nat) : Int) = ((2 : Int) ^ (4 * t) - 1) % 4294967296 := by
    rw [← e2, Int.natCast_sub h0, Int.emod_eq_of_lt]
    · rfl
    · have : (1 : Int) ≤ ((2 ^ (4 * t) : Nat) : Int) := Int.ofNat_le.2 h0
      exact Int.sub_nonneg_of_le this
    · have : ((2 ^ (4 * t) : Nat) : Int) ≤ ((2 ^ 28 : Nat) : Int) := Int.ofNat_le.2 hl
      have e28 : ((2 ^ 28 : Nat) : Int) = 268435456 := rfl
      rw [e28] at this
      exact Int.lt_of_le_of_lt (Int.sub_le_self _ (by decide)) (Int.lt_of_le_of_lt this (by decide))
  rw [e3] at this
  exact this

/-- The slice's tail, whether or not something is left of it. -/
theorem tail_slice (V : World) (g n C : Nat) (z : Nat → Int) (h : Row V (some ⟨g, 0, none⟩) n g 0 z) (hC : C ≤ n) :
    ∃ (ta : Option Addr) (tb to : Nat), (∀ wx : World, (Instr.slice 22 (.slice (some ⟨g, 0, none⟩) n n) (some (.int .i64 (C : Int))) none none).run Try.prog wx = .ok (.slice ta (n - C) (n - C)) wx) ∧ Row V ta (n - C) tb to (fun i => z (C + i)) := by
  have es : ∀ wx, (sizeOf (Try.prog.elem 22)).run Try.prog wx = .ok 1 wx := fun _ => by kernel_rfl
  have hrun : ∀ wx : World, (Instr.slice 22 (.slice (some ⟨g, 0, none⟩) n n) (some (.int .i64 (C : Int))) none none).run Try.prog wx = .ok (sliced (some ⟨g, 0, none⟩) C n n 1) wx := fun wx => by
    rw [run_slice_l wx 22 (some ⟨g, 0, none⟩) n n (by kernel_rfl) .i64 (C : Int) (by omega) (by omega), es]
    rfl
  by_cases hlt : C < n
  · refine ⟨some ⟨g, C, none⟩, g, C, fun wx => ?_, h.tail C hC⟩
    rw [hrun wx, sliced, if_neg (by omega)]
    simp [Addr.add]
    omega
  · obtain rfl : C = n := by omega
    refine ⟨some ⟨g, 0, none⟩, 0, 0, fun wx => ?_, Or.inl (by omega), fun i hi => by omega, fun i hi => by omega⟩
    rw [hrun wx, sliced, if_pos rfl]

set_option maxHeartbeats 6400000 in
set_option maxRecDepth 100000 in
theorem cut_some (a : Addr) (n C c b off : Nat) (z : Nat → Int) (w : World) (h : Hid (Row w (some a) n b off z)) (hn : n ≤ 65536) (hC : C ≤ n) :
    Calls Try.prog 4 #[.slice (some a) n c, .int .i64 (C : Int)] w fun e w' => e = .returned (.bool true) ∧ Below w.heap.size w w' := by
  have hnn := fun wx => run_neq_slice_nil_any (P := Try.prog) wx 22 5 (some a) n c 0 0 Try.underlying22
  have hmk := run_make_row' (P := Try.prog) 22 5 (.int .u8 0) 1 Try.underlying22 (by kernel_rfl) rfl .i64 .i64 n (by omega) (by omega)
  obtain ⟨V, hcp, bV, hV⟩ := copy_made a n c b off z w h.out
  obtain ⟨ta, tb, to, hts, hT⟩ := tail_slice V w.heap.size n C z hV hC
  have HT : Hid (Row V ta (n - C) tb to (fun i => z (C + i))) := hT
  have HV : Hid (Row V (some ⟨w.heap.size, 0, none⟩) n w.heap.size 0 z) := hV
  obtain ⟨sh, hsh, hshr⟩ := shl_run (R z C) (4 * (n - C)) (4 * ((n : Int) - (C : Int))) (by omega)
  have hor : bits .or .i32 sh (rv (R (fun i => z (C + i)) (n - C))) = rv (R z n) := by
    rw [rv_or sh _ (R z C <<< (4 * (n - C))) (R (fun i => z (C + i)) (n - C)) hsh (rv_mod _), ← R_split z C (n - C), show C + (n - C) = n by omega]
  have hd : decide (65536 < (n : Int)) = false := by simp; omega
  have hc0 : decide ((C : Int) < 0) = false := by simp
  clear hV hT hsh
  go_enter Try.func4, Try.ntmps4
  go_wp2_with fail
  refine (bytes8_any (some a) n c _ w (by omega)).mono ?_
  rintro e w1 ⟨r, rfl, rfl⟩
  cases r
  · go_wp2
    go_ret
    exact ⟨rfl, Below.refl _ _⟩
  · go_wp2_with fail
    clear hnn hmk hcp h
    refine (zzrune_any _ _ _ _ _ z _ HV (by omega)).mono ?_
    rintro e w2 ⟨rfl, rfl⟩
    go_wp2_with fail
    refine (zzrune_any _ _ _ _ _ z _ (HV.out.head C (by omega)) (by omega)).mono ?_
    rintro e w3 ⟨rfl, rfl⟩
    go_wp2_with fail
    refine (zzrune_any ta (n - C) (n - C) tb to (fun i => z (C + i)) _ HT (by omega)).mono ?_
    rintro e w4 ⟨rfl, rfl⟩
    go_wp2_with fail
    clear hts hshr hor HT
    go_loop [11, 12, 13, 14, 15, 16] (fun t11 t12 t13 t14 _ _ => ∃ (t : Nat) (x p : Int), t ≤ n ∧ 0 ≤ x ∧ x < 4294967296 ∧ 0 ≤ p ∧ p < 4294967296 ∧ Hid (∀ j, j < t → isHex (z (n - 1 - j))) ∧ Hid (x = ((W z n t : Nat) : Int) % 4294967296) ∧ Hid (p = ((16 ^ t : Nat) : Int) % 4294967296) ∧ t11 = .int .i64 (t : Int) ∧ t12 = .int .u32 x ∧ t13 = .int .u32 p ∧ t14 = .int .i64 ((n : Int) - 1 - t)) (fun _ _ _ t14 _ _ => (intOf t14 + 1).toNat)
    case atStart => exact ⟨0, 0, 1, by omega, by omega, by omega, by omega, by omega, fun j hj => by omega, rfl, rfl, rfl, rfl, rfl, by go_num⟩
    case round =>
      obtain ⟨t, x, p, ht, hx0, hx1, hp0, hp1, hH, hX, hP, rfl, rfl, rfl, rfl⟩ := hrel
      by_cases htl : t < n
      · have hlt : n - 1 - t < n := by omega
        have i1 := HV.out.index n (n - 1 - t) ((n : Int) - 1 - t) (by omega) hlt
        have e1 := HV.out.2.1 (n - 1 - t) hlt
        simp only [Nat.zero_add] at i1 e1
        by_cases hy : isHex (z (n - 1 - t))
        · have HY : Hid (isHex (z (n - 1 - t))) := hy
          have hdg := dg_hex _ hy
          clear hy
          go_wp2_with fail
          refine (hexVal_yes _ _ HY).mono ?_
          rintro e w2 ⟨rfl, rfl⟩
          go_wp2_with fail
          go_round
          case rel => exact ⟨t + 1, _, _, by omega, Int.emod_nonneg _ (by decide), Int.emod_lt_of_pos _ (by decide), Int.emod_nonneg _ (by decide), Int.emod_lt_of_pos _ (by decide), fun j hj => by by_cases e : j = t; subst e; exact HY.out; exact hH.out j (by omega), W_step z n t x p hX.out hP.out hdg.1, pow_step t p hP.out, by go_num, rfl, rfl, by congr 1; omega⟩
          case measure => simp [intOf]; omega
        · have HY : Hid (¬ isHex (z (n - 1 - t))) := hy
          clear hy
          by_cases h8 : 8 ≤ (t : Int)
          · have he : bits .and .u32 (rv (R z n) % 4294967296) 4294967295 = bits .and .u32 x 4294967295 := mask_eq z n t 32 x ht hH.out (by omega) (by omega) hX.out
            go_wp2_with fail
            refine (hexVal_no _ _ HY).mono ?_
            rintro e w2 ⟨rfl, rfl⟩
            go_wp2_with fail
            go_ret
            exact ⟨by simp, bV⟩
          · have HE := mask_low z n t x ht hH.out (by omega) hX.out
            go_wp2_with fail
            refine (hexVal_no _ _ HY).mono ?_
            rintro e w2 ⟨rfl, rfl⟩
            go_wp2_with fail
            go_ret
            exact ⟨by simp; exact HE.out, bV⟩
      · by_cases h8 : 8 ≤ (t : Int)
        · have he : bits .and .u32 (rv (R z n) % 4294967296) 4294967295 = bits .and .u32 x 4294967295 := mask_eq z n t 32 x ht hH.out (by omega) (by omega) hX.out
          go_wp2_with fail
          go_ret
          exact ⟨by simp, bV⟩
        · have HE := mask_low z n t x ht hH.out (by omega) hX.out
          go_wp2_with fail
          go_ret
          exact ⟨by simp; exact HE.out, bV⟩
end Go.Proofs.Qxb6630604a
