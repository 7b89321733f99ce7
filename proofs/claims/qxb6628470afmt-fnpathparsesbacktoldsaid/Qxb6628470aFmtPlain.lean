/-
  SEAT b6628470aF. THE PLAIN MATHEMATICS OF A TILE's PATH: no Go in sight.
  'd3 g': g in three digits. 'G N k': the groups of N from group k down to group 0, as Path writes them. 'A N k': the same without the last group's three digits.
-/
import Derived.Lib.ItoaNum
import Derived.Stop.FmtTextWidths
namespace Go.Proofs.Qxb6628470aFmt
open Go Go.Extern Go.Extern.Stop Go.Stop

def d3 (g : Nat) : List UInt8 := [UInt8.ofNat (48 + g / 100 % 10), UInt8.ofNat (48 + g / 10 % 10), UInt8.ofNat (48 + g % 10)]

theorem d3_length (g : Nat) : (d3 g).length = 3 := rfl

theorem zeros3 (g : Nat) (h : g < 1000) : FmtText.zeros 3 (g : Int) = d3 g := by
  unfold FmtText.zeros
  rw [if_neg (by omega), Int.toNat_natCast]
  by_cases h1 : g < 10
  · rw [Lib.decDigits_one h1]
    have e1 : g / 100 % 10 = 0 := by omega
    have e2 : g / 10 % 10 = 0 := by omega
    have e3 : g % 10 = g := by omega
    simp [d3, e1, e2, e3, List.replicate]
  · by_cases h2 : g < 100
    · rw [Lib.decDigits_two h1 h2]
      have e1 : g / 100 % 10 = 0 := by omega
      have e2 : g / 10 % 10 = g / 10 := by omega
      simp [d3, e1, e2]
    · rw [Lib.decDigits, dif_neg h1, Lib.decDigits_two (by omega) (by omega)]
      have e1 : g / 10 / 10 = g / 100 % 10 := by omega
      have e2 : g / 10 % 10 = g / 10 % 10 := by omega
      simp [d3, e1]

def G (N : Nat) : Nat → List UInt8
  | 0 => d3 (N % 1000)
  | k + 1 => 120 :: (d3 (N / 1000 ^ (k + 1) % 1000) ++ 47 :: G N k)

def A (N : Nat) : Nat → List UInt8
  | 0 => []
  | k + 1 => 120 :: (d3 (N / 1000 ^ (k + 1) % 1000) ++ 47 :: A N k)

theorem G_eq_A (N : Nat) : ∀ k, G N k = A N k ++ d3 (N % 1000)
  | 0 => rfl
  | k + 1 => by simp [G, A, G_eq_A N k]

theorem G_cut (N : Nat) : ∀ k, G N (k + 1) = A (N / 1000) k ++ 120 :: (d3 (N / 1000 % 1000) ++ 47 :: d3 (N % 1000))
  | 0 => by simp [G, A]
  | k + 1 => by
    rw [G, G_cut N k, A]
    have e : N / 1000 ^ (k + 1 + 1) = N / 1000 / 1000 ^ (k + 1) := by
      rw [Nat.pow_succ, Nat.mul_comm, Nat.div_div_eq_div_mul]
    rw [e]
    simp

theorem G_length (N : Nat) : ∀ k, (G N k).length = 5 * k + 3
  | 0 => rfl
  | k + 1 => by simp [G, d3_length, G_length N k]; omega

/-- k is the number of N's last group: N has k + 1 groups. -/
def Top (N k : Nat) : Prop := N / 1000 ^ (k + 1) = 0 ∧ ∀ j, 1 ≤ j → j ≤ k → 0 < N / 1000 ^ j

theorem top_unique {N k j : Nat} (h : Top N k) (h' : Top N j) : k = j := by
  rcases Nat.lt_trichotomy k j with hlt | rfl | hlt
  · have := h'.2 (k + 1) (by omega) (by omega); have := h.1; omega
  · rfl
  · have := h.2 (j + 1) (by omega) (by omega); have := h'.1; omega

theorem top_zero {N k : Nat} (h : Top N k) (hN : N < 1000) : k = 0 := by
  refine top_unique h ⟨?_, fun j h1 h2 => by omega⟩
  simp; omega

theorem top_cut {N k : Nat} (h : Top N k) (hN : 1000 ≤ N) : ∃ j, k = j + 1 ∧ Top (N / 1000) j := by
  have e : ∀ j, N / 1000 ^ (j + 1) = N / 1000 / 1000 ^ j := fun j => by rw [Nat.pow_succ, Nat.mul_comm, Nat.div_div_eq_div_mul]
  cases k with
  | zero => have := h.1; simp at this; omega
  | succ j =>
    refine ⟨j, rfl, ?_, fun i h1 h2 => ?_⟩
    · rw [← e]; exact h.1
    · rw [← e]; exact h.2 (i + 1) (by omega) (by omega)

/-- The path of the tile: its level, a slash, its groups, and where the width is below 256 its tail. -/
def pathL (level : Int) (N k : Nat) (width : Int) : List UInt8 :=
  Lib.itoa level ++ 47 :: (G N k ++ if width < 256 then 46 :: 112 :: 47 :: Lib.itoa width else [])

end Go.Proofs.Qxb6628470aFmt
