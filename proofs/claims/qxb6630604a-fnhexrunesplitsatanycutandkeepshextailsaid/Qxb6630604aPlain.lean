/-
  SEAT b6630604a. THE PLAIN MATHEMATICS: bytes joined by shifts and ors, and the positional value of hexadecimal digits.
-/
import Derived.Laws.BitsAllLaws
import Derived.Laws.Shifts
namespace Go.Proofs.Qxb6630604a
open Go

/-- What hexRune makes of a byte. -/
def dg (y : Int) : Int := if y ≤ 57 then (y - 48) % 256 else if y ≤ 70 then y - 55 else (y - 87) % 256

def isHex (y : Int) : Prop := (48 ≤ y ∧ y ≤ 57) ∨ (65 ≤ y ∧ y ≤ 70) ∨ (97 ≤ y ∧ y ≤ 102)

theorem dg_range (y : Int) (h0 : 0 ≤ y) (h1 : y ≤ 255) : 0 ≤ dg y ∧ dg y ≤ 255 := by
  unfold dg; split
  · omega
  · split <;> omega

theorem dg_hex (y : Int) (h : isHex y) : 0 ≤ dg y ∧ dg y ≤ 15 := by
  unfold dg; unfold isHex at h; split
  · omega
  · split <;> omega

/-- The bytes joined, nothing cut off. -/
def R (z : Nat → Int) : Nat → Nat
  | 0 => 0
  | k + 1 => (R z k <<< 4) ||| (dg (z k)).toNat

theorem R_split (z : Nat → Int) (c : Nat) : ∀ m, R z (c + m) = (R z c <<< (4 * m)) ||| R (fun i => z (c + i)) m
  | 0 => by simp [R]
  | m + 1 => by
    rw [← Nat.add_assoc, R, R_split z c m, R, Nat.shiftLeft_or_distrib, Nat.or_assoc, ← Nat.shiftLeft_add]
    rfl

theorem R_congr (z z' : Nat → Int) : ∀ n, (∀ i, i < n → z i = z' i) → R z n = R z' n
  | 0, _ => rfl
  | n + 1, h => by rw [R, R, R_congr z z' n (fun i hi => h i (by omega)), h n (by omega)]

/-- The value of the last k digits, summed from the right. -/
def W (z : Nat → Int) (n : Nat) : Nat → Nat
  | 0 => 0
  | k + 1 => W z n k + (dg (z (n - 1 - k))).toNat * 16 ^ k

theorem W_lt (z : Nat → Int) (n : Nat) : ∀ k, (∀ j, j < k → isHex (z (n - 1 - j))) → W z n k < 16 ^ k
  | 0, _ => by simp [W]
  | k + 1, h => by
    have h1 := W_lt z n k fun j hj => h j (by omega)
    have h2 := dg_hex _ (h k (by omega))
    have h3 : (dg (z (n - 1 - k))).toNat ≤ 15 := by omega
    have h4 := Nat.mul_le_mul_right (16 ^ k) h3
    rw [W, Nat.pow_succ]
    omega

theorem R_W (z : Nat → Int) (n : Nat) : ∀ k, k ≤ n → (∀ j, j < k → isHex (z (n - 1 - j))) → R (fun i => z (n - k + i)) k = W z n k
  | 0, _, _ => rfl
  | k + 1, hk, h => by
    have ih := R_W z n k (by omega) fun j hj => h j (by omega)
    have hlt := W_lt z n k fun j hj => h j (by omega)
    have hs := R_split (fun i => z (n - (k + 1) + i)) 1 k
    rw [Nat.add_comm 1 k] at hs
    rw [hs]
    have e1 : R (fun i => z (n - (k + 1) + (1 + i))) k = W z n k := by
      rw [← ih]
      exact R_congr _ _ k fun i _ => by show z _ = z _; congr 1; omega
    rw [e1]
    have e2 : R (fun i => z (n - (k + 1) + i)) 1 = (dg (z (n - 1 - k))).toNat := by
      simp [R, show n - (k + 1) = n - 1 - k by omega]
    rw [e2, Nat.shiftLeft_eq, W, nat_join (4 * k) _ _ (Nat.mul_mod_left _ _) (by rw [Nat.pow_mul]; exact hlt), Nat.pow_mul, show (2 : Nat) ^ 4 = 16 from rfl]
    omega

/-- The whole, told by a front and the last k digits. -/
theorem R_tail (z : Nat → Int) (n k : Nat) (hk : k ≤ n) (h : ∀ j, j < k → isHex (z (n - 1 - j))) : R z n = (R z (n - k) <<< (4 * k)) ||| W z n k := by
  have := R_split z (n - k) k
  rw [show n - k + k = n by omega, R_W z n k hk h] at this
  exact this

theorem R_tail_mod (z : Nat → Int) (n k : Nat) (hk : k ≤ n) (h : ∀ j, j < k → isHex (z (n - 1 - j))) : R z n % 2 ^ (4 * k) = W z n k % 2 ^ (4 * k) := by
  rw [R_tail z n k hk h, Nat.or_mod_two_pow, Nat.shiftLeft_eq, Nat.mul_mod_left, Nat.zero_or]

/-! ### 32 bits -/

theorem wrap_i32_eq (z : Int) : IntKind.i32.wrap z = (z + 2147483648) % 4294967296 - 2147483648 := by
  simp [IntKind.wrap, IntKind.bits, IntKind.signed]
  split <;> omega

theorem or32 (a b : Int) (x y : Nat) (ha : a % 4294967296 = (x : Int) % 4294967296) (hb : b % 4294967296 = (y : Int) % 4294967296) : bits .or .i32 a b = IntKind.i32.wrap ((x ||| y : Nat) : Int) := by
  have e : ∀ z : Int, (BitVec.ofInt 32 z).toNat = (z % 4294967296).toNat := fun z => by simp [BitVec.toNat_ofInt]
  have hw : ∀ m : Nat, IntKind.i32.wrap ((m % 4294967296 : Nat) : Int) = IntKind.i32.wrap (m : Int) := fun m => by
    rw [wrap_i32_eq, wrap_i32_eq]; omega
  show IntKind.i32.wrap (((BitVec.ofInt 32 a) ||| (BitVec.ofInt 32 b)).toNat : Nat) = _
  rw [BitVec.toNat_or, e, e, ha, hb]
  have h1 : ((x : Int) % 4294967296).toNat = x % 2 ^ 32 := by omega
  have h2 : ((y : Int) % 4294967296).toNat = y % 2 ^ 32 := by omega
  rw [h1, h2, ← Nat.or_mod_two_pow]
  exact hw _

theorem wrap32_mod (a : Int) : IntKind.i32.wrap a % 4294967296 = a % 4294967296 := by
  rw [wrap_i32_eq]; omega

end Go.Proofs.Qxb6630604a
