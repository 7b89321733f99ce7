/-
  SEAT b6630604a. THE WALK OF FnHexRuneMatchesPositionalValue (function 3).
-/
import Derived.Test.Qxb6630604aCopy
namespace Go.Proofs.Qxb6630604a
open Go Go.RowKit

theorem W_step (z : Nat → Int) (n t : Nat) (x p : Int) (hx : x = ((W z n t : Nat) : Int) % 4294967296) (hp : p = ((16 ^ t : Nat) : Int) % 4294967296) (hd : 0 ≤ dg (z (n - 1 - t))) :
    (x + dg (z (n - 1 - t)) * p % 4294967296) % 4294967296 = ((W z n (t + 1) : Nat) : Int) % 4294967296 := by
  have e : ((W z n (t + 1) : Nat) : Int) = ((W z n t : Nat) : Int) + dg (z (n - 1 - t)) * ((16 ^ t : Nat) : Int) := by
    rw [W, Int.natCast_add, Int.natCast_mul, Int.toNat_of_nonneg hd]
  obtain ⟨q, hq⟩ : ∃ q : Int, ((16 ^ t : Nat) : Int) = 4294967296 * q + p := ⟨((16 ^ t : Nat) : Int) / 4294967296, by omega⟩
  have e2 : dg (z (n - 1 - t)) * ((16 ^ t : Nat) : Int) = 4294967296 * (dg (z (n - 1 - t)) * q) + dg (z (n - 1 - t)) * p := by
    rw [hq, Int.mul_add, ← Int.mul_assoc, Int.mul_comm (dg _) 4294967296, Int.mul_assoc]
  rw [e, e2]
  omega

theorem pow_step (t : Nat) (p : Int) (hp : p = ((16 ^ t : Nat) : Int) % 4294967296) : p * 16 % 4294967296 = ((16 ^ (t + 1) : Nat) : Int) % 4294967296 := by
  rw [Nat.pow_succ, Int.natCast_mul]
  omega

theorem rv_mod (x : Nat) : rv x % 4294967296 = (x : Int) % 4294967296 := by unfold rv wrap32; omega

theorem R_all (z : Nat → Int) (n : Nat) (h : ∀ j, j < n → isHex (z j)) : R z n = W z n n := by
  have := R_W z n n (Nat.le_refl _) fun j hj => h _ (by omega)
  simpa using this

set_option maxHeartbeats 800000 in
theorem pos_nil (w : World) : Calls Try.prog 3 #[.slice none 0 0] w fun e w' => e = .returned (.bool true) ∧ Below w.heap.size w w' := by
  have hnn := fun wx => run_neq_slice_nil_any (P := Try.prog) wx 22 5 none 0 0 0 0 Try.underlying22
  go_enter Try.func3, Try.ntmps3
  go_wp2_with fail
  refine (bytes5_any none 0 0 w (by omega)).mono ?_
  rintro e w1 ⟨r, rfl, rfl⟩
  cases r
  · go_wp2
    go_ret
    exact ⟨rfl, Below.refl _ _⟩
  · go_wp2_with fail
    clear hnn
    go_loop [4, 5, 6] (fun t4 _ _ => t4 = .int .i64 0) (fun _ _ _ => 0)
    case atStart => rfl
    case round =>
      obtain rfl := hrel
      go_wp2_with fail
      go_loop [7, 8, 9, 10, 11] (fun t7 _ t9 _ _ => t7 = .int .u32 0 ∧ t9 = .int .i64 (-1)) (fun _ _ _ _ _ => 0)
      case atStart => exact ⟨rfl, rfl⟩
      case round =>
        obtain ⟨rfl, rfl⟩ := hrel
        go_wp2_with fail
        refine (zzrune_any none 0 0 0 0 (fun _ => 0) _ ⟨Or.inl rfl, fun i hi => by omega, fun i hi => by omega⟩ (by omega)).mono ?_
        rintro e w2 ⟨rfl, rfl⟩
        rw [show R (fun _ => 0) 0 = 0 from rfl, rv_zero]
        go_wp2_with fail
        go_ret
        exact ⟨rfl, Below.refl _ _⟩

set_option maxHeartbeats 800000 in
theorem pos_big (a : Option Addr) (n c : Nat) (w : World) (hm : (n : Int) ≤ 9223372036854775807) (hn : 65536 < (n : Int)) :
    Calls Try.prog 3 #[.slice a n c] w fun e w' => e = .returned (.bool true) ∧ Below w.heap.size w w' := by
  go_enter Try.func3, Try.ntmps3
  go_wp2_with fail
  refine (bytes5_any a n c w hm).mono ?_
  rintro e w1 ⟨r, rfl, rfl⟩
  cases r
  · go_wp2
    go_ret
    exact ⟨rfl, Below.refl _ _⟩
  · go_wp2
    go_ret
    exact ⟨rfl, Below.refl _ _⟩

set_option maxHeartbeats 3200000 in
set_option maxRecDepth 100000 in
theorem pos_some (a : Addr) (n c b off : Nat) (z : Nat → Int) (w : World) (h : Hid (Row w (some a) n b off z)) (hn : n ≤ 65536) :
    Calls Try.prog 3 #[.slice (some a) n c] w fun e w' => e = .returned (.bool true) ∧ Below w.heap.size w w' := by
  have hnn := fun wx => run_neq_slice_nil_any (P := Try.prog) wx 22 5 (some a) n c 0 0 Try.underlying22
  have hmk := run_make_row' (P := Try.prog) 22 5 (.int .u8 0) 1 Try.underlying22 (by kernel_rfl) rfl .i64 .i64 n (by omega) (by omega)
  obtain ⟨V, hcp, bV, hV⟩ := copy_made a n c b off z w h.out
  have HV : Hid (Row V (some ⟨w.heap.size, 0, none⟩) n w.heap.size 0 z) := hV
  have hd : decide (65536 < (n : Int)) = false := by simp; omega
  clear hV
  go_enter Try.func3, Try.ntmps3
  go_wp2_with fail
  refine (bytes5_any (some a) n c w (by omega)).mono ?_
  rintro e w1 ⟨r, rfl, rfl⟩
  cases r
  · go_wp2
    go_ret
    exact ⟨rfl, Below.refl _ _⟩
  · go_wp2_with fail
    clear hnn hmk hcp h
    go_loop [4, 5, 6] (fun t4 _ _ => ∃ k : Nat, k ≤ n ∧ Hid (∀ j, j < k → isHex (z j)) ∧ t4 = .int .i64 (k : Int)) (fun t4 _ _ => n - (intOf t4).toNat)
    case atStart => exact ⟨0, by omega, fun j hj => by omega, rfl⟩
    case round =>
      obtain ⟨k, hk, hH, rfl⟩ := hrel
      by_cases hlt : k < n
      · have i1 := HV.out.index n k (k : Int) rfl hlt
        have e1 := HV.out.2.1 k hlt
        simp only [Nat.zero_add] at i1 e1
        by_cases hx : isHex (z k)
        · go_wp2_with fail
          refine (hexVal_yes _ _ hx).mono ?_
          rintro e w2 ⟨rfl, rfl⟩
          go_wp2_with fail
          go_round
          case rel => exact ⟨k + 1, by omega, fun j hj => by by_cases e : j = k; subst e; exact hx; exact hH.out j (by omega), by go_num⟩
          case measure => simp [intOf]; omega
        · go_wp2_with fail
          refine (hexVal_no _ _ hx).mono ?_
          rintro e w2 ⟨rfl, rfl⟩
          go_wp2_with fail
          go_ret
          exact ⟨rfl, bV⟩
      · obtain rfl : k = n := by omega
        go_wp2_with fail
        go_loop [7, 8, 9, 10, 11] (fun t7 t8 t9 _ _ => ∃ (t : Nat) (x p : Int), t ≤ k ∧ 0 ≤ x ∧ x < 4294967296 ∧ 0 ≤ p ∧ p < 4294967296 ∧ Hid (x = ((W z k t : Nat) : Int) % 4294967296) ∧ Hid (p = ((16 ^ t : Nat) : Int) % 4294967296) ∧ t7 = .int .u32 x ∧ t8 = .int .u32 p ∧ t9 = .int .i64 ((k : Int) - 1 - t)) (fun _ _ t9 _ _ => (intOf t9 + 1).toNat)
        case atStart => exact ⟨0, 0, 1, by omega, by omega, by omega, by omega, by omega, rfl, rfl, rfl, rfl, by go_num⟩
        case round =>
          obtain ⟨t, x, p, ht, hx0, hx1, hp0, hp1, hX, hP, rfl, rfl, rfl⟩ := hrel
          by_cases htl : t < k
          · have hlt : k - 1 - t < k := by omega
            have i1 := HV.out.index k (k - 1 - t) ((k : Int) - 1 - t) (by omega) hlt
            have e1 := HV.out.2.1 (k - 1 - t) hlt
            simp only [Nat.zero_add] at i1 e1
            have hy := hH.out (k - 1 - t) hlt
            have HY : Hid (isHex (z (k - 1 - t))) := hy
            have hd := dg_hex _ hy
            clear hy
            go_wp2_with fail
            refine (hexVal_yes _ _ HY).mono ?_
            rintro e w2 ⟨rfl, rfl⟩
            go_wp2_with fail
            go_round
            case rel => exact ⟨t + 1, _, _, by omega, Int.emod_nonneg _ (by decide), Int.emod_lt_of_pos _ (by decide), Int.emod_nonneg _ (by decide), Int.emod_lt_of_pos _ (by decide), W_step z k t x p hX.out hP.out hd.1, pow_step t p hP.out, rfl, rfl, by congr 1; omega⟩
            case measure => simp [intOf]; omega
          · go_wp2_with fail
            refine (zzrune_any _ _ _ _ _ z _ HV (by omega)).mono ?_
            rintro e w2 ⟨rfl, rfl⟩
            go_wp2_with fail
            obtain rfl : t = k := by omega
            go_ret
            refine ⟨?_, bV⟩
            show Ending.returned (.bool (rv (R z t) % 4294967296 == x)) = _
            rw [rv_mod, R_all z t hH.out, hX.out]
            simp
end Go.Proofs.Qxb6630604a
