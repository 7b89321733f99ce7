/-
  SEAT b6628470aF. PLAIN: the value of a row of decimal digits, read from the left.
-/
import Derived.Lib.ItoaNum
namespace Go.Proofs.Qxb6628470aFmt
open Go

def vd (l : List UInt8) : Nat := l.foldl (fun a c => a * 10 + (c.toNat - 48)) 0

theorem vd_snoc (l : List UInt8) (c : UInt8) : vd (l ++ [c]) = vd l * 10 + (c.toNat - 48) := by simp [vd]

theorem digit_toNat (u : Nat) (h : u < 10) : (UInt8.ofNat (48 + u)).toNat = 48 + u := by rw [UInt8.toNat_ofNat']; omega

theorem vd_dec (U : Nat) : vd (Lib.decDigits U) = U := by
  induction U using Nat.strongRecOn with
  | _ U ih =>
    by_cases h : U < 10
    · rw [Lib.decDigits, dif_pos h]
      show 0 * 10 + ((UInt8.ofNat (48 + U)).toNat - 48) = U
      rw [digit_toNat U h]; omega
    · rw [Lib.decDigits, dif_neg h, vd_snoc, ih (U / 10) (by omega), digit_toNat _ (by omega)]
      omega

theorem dec_digit (U : Nat) : ∀ c ∈ Lib.decDigits U, 48 ≤ c.toNat ∧ c.toNat ≤ 57 := by
  induction U using Nat.strongRecOn with
  | _ U ih =>
    intro c hc
    by_cases h : U < 10
    · rw [Lib.decDigits, dif_pos h] at hc
      simp only [List.mem_singleton] at hc
      subst hc
      rw [digit_toNat U h]; omega
    · rw [Lib.decDigits, dif_neg h] at hc
      rcases List.mem_append.1 hc with hc | hc
      · exact ih (U / 10) (by omega) c hc
      · simp only [List.mem_singleton] at hc
        subst hc
        rw [digit_toNat _ (by omega)]; omega

theorem dec_pos (U : Nat) : 0 < (Lib.decDigits U).length := by
  rw [Lib.decDigits_length]; exact Lib.nDigits_pos U

/-- The first digit of a number that is not 0 is not 0. -/
theorem dec_head (U : Nat) (hU : 0 < U) : ((Lib.decDigits U)[0]'(dec_pos U)).toNat ≠ 48 := by
  induction U using Nat.strongRecOn with
  | _ U ih =>
    by_cases h : U < 10
    · have e : Lib.decDigits U = [UInt8.ofNat (48 + U)] := Lib.decDigits_one h
      simp only [e, List.getElem_cons_zero]
      rw [digit_toNat U h]; omega
    · have e : Lib.decDigits U = Lib.decDigits (U / 10) ++ [UInt8.ofNat (48 + U % 10)] := by rw [Lib.decDigits, dif_neg h]
      have := ih (U / 10) (by omega) (by omega)
      simp only [e]
      rw [List.getElem_append_left (dec_pos _)]
      exact this

theorem vd_take_succ (l : List UInt8) (j : Nat) (h : j < l.length) : vd (l.take (j + 1)) = vd (l.take j) * 10 + ((l[j]).toNat - 48) := by
  rw [List.take_succ_eq_append_getElem h, vd_snoc]

theorem foldl_ge : ∀ (l : List UInt8) (a : Nat), a ≤ l.foldl (fun a c => a * 10 + (c.toNat - 48)) a
  | [], a => Nat.le_refl a
  | c :: l, a => by
    rw [List.foldl_cons]
    exact Nat.le_trans (by omega) (foldl_ge l _)

theorem vd_take_le (l : List UInt8) (j : Nat) : vd (l.take j) ≤ vd l := by
  have : vd l = (l.drop j).foldl (fun a c => a * 10 + (c.toNat - 48)) (vd (l.take j)) := by
    unfold vd
    rw [← List.foldl_append, List.take_append_drop]
  rw [this]
  exact foldl_ge _ _

end Go.Proofs.Qxb6628470aFmt
