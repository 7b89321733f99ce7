/-
  SEAT b6628470aF. THE WALK OF read3 (function 12): where three digits of g stand at p it reads g.
-/
import Derived.Test.Qxb6628470aFmtFacts
import Derived.WalkKit
import Derived.WalkSpells
import Derived.WalkLawsBesides
import Derived.Below
import Derived.Outline
namespace Go.Proofs.Qxb6628470aFmt
open Go Go.RowKit

/-- At place p of s stand the bytes l. -/
def At (s : ByteArray) (p : Nat) (l : List UInt8) : Prop := ∃ rest, s.data.toList.drop p = l ++ rest

theorem At.size {s : ByteArray} {p : Nat} {l : List UInt8} (h : At s p l) (hl : 0 < l.length) : p + l.length ≤ s.size := by
  obtain ⟨r, h⟩ := h
  have := congrArg List.length h
  simp at this
  omega

theorem At.byte {s : ByteArray} {p : Nat} {l : List UInt8} (h : At s p l) (j : Nat) (hj : j < l.length) (hs : p + j < s.size) : s[p + j] = l[j] := by
  obtain ⟨r, h⟩ := h
  have h1 : (s.data.toList.drop p)[j]? = some l[j] := by rw [h, List.getElem?_append_left hj]; simp [hj]
  rw [List.getElem?_drop] at h1
  have h2 : s.data.toList[p + j]? = some s[p + j] := by
    rw [Array.getElem?_toList]
    exact Array.getElem?_eq_getElem hs
  rw [h2] at h1
  exact Option.some.inj h1

theorem At.later {s : ByteArray} {p : Nat} {a b : List UInt8} (h : At s p (a ++ b)) : At s (p + a.length) b := by
  obtain ⟨r, h⟩ := h
  refine ⟨r, ?_⟩
  rw [← List.drop_drop, h]
  simp

theorem At.first {s : ByteArray} {p : Nat} {a b : List UInt8} (h : At s p (a ++ b)) : At s p a := by
  obtain ⟨r, h⟩ := h
  exact ⟨b ++ r, by rw [h]; simp⟩

theorem d3_byte (g k : Nat) (hk : k < 3) : ((d3 g)[k]'(by rw [d3_length]; exact hk)).toNat = 48 + g / 10 ^ (2 - k) % 10 := by
  have e : ∀ x, (UInt8.ofNat (48 + x % 10)).toNat = 48 + x % 10 := fun x => by rw [UInt8.toNat_ofNat']; omega
  rcases k with _ | _ | _ | k
  · simpa [d3] using e (g / 100)
  · simpa [d3] using e (g / 10)
  · simpa [d3] using e g
  · omega

theorem pre_next (g k : Nat) (hk : k < 3) : g / 10 ^ (3 - k) * 10 + (48 + g / 10 ^ (2 - k) % 10 - 48) = g / 10 ^ (3 - (k + 1)) := by
  rcases k with _ | _ | _ | k
  · simp; omega
  · simp; omega
  · simp; omega
  · omega

theorem pre_le (g k : Nat) (hg : g < 1000) (hk : k < 3) : g / 10 ^ (3 - k) * 10 + (48 + g / 10 ^ (2 - k) % 10 - 48) ≤ 999 := by
  rw [pre_next g k hk]
  exact Nat.le_trans (Nat.div_le_self _ _) (by omega)

set_option maxHeartbeats 800000 in
theorem read3_any (s : ByteArray) (p g : Nat) (w : World) (hg : g < 1000) (hs : s.size ≤ 1000) (h : Hid (At s p (d3 g))) :
    Calls Tryf.prog 12 #[.string s, .int .i64 (p : Int)] w fun e w' => e = .returned (.tuple #[.int .u64 (g : Int), .bool true]) ∧ w' = w := by
  have hp : p + 3 ≤ s.size := h.out.size (by simp [d3_length])
  go_enter Tryf.func12, Tryf.ntmps12
  go_wp2
  go_loop [6, 7, 8] (fun t6 t7 _ => ∃ k a : Nat, k ≤ 3 ∧ a ≤ 999 ∧ Hid (a = g / 10 ^ (3 - k)) ∧ t7 = .int .i64 (k : Int) ∧ t6 = .int .u64 (a : Int)) (fun _ t7 _ => 3 - (intOf t7).toNat)
  case atStart => exact ⟨0, 0, by omega, by omega, by unfold Hid; omega, rfl, rfl⟩
  case round =>
    obtain ⟨k, a, hk, ha, hA, rfl, rfl⟩ := hrel
    by_cases hlt : k < 3
    · have hpk : p + k < s.size := by omega
      have hb := h.out.byte k (by rw [d3_length]; exact hlt) hpk
      obtain ⟨c, hc⟩ : ∃ c : Nat, c = 48 + g / 10 ^ (2 - k) % 10 := ⟨_, rfl⟩
      have hbn : s[p + k].toNat = c := by rw [hb, d3_byte g k hlt, hc]
      have hc1 : 48 ≤ c := by omega
      have hc2 : c ≤ 57 := by omega
      have HC : Hid (c = 48 + g / 10 ^ (2 - k) % 10) := hc
      clear hc hb
      go_wp2
      go_roundw
      case rel =>
        refine ⟨k + 1, a * 10 + (c - 48), by omega, ?_, ?_, by go_num, by congr 1; omega⟩
        · rw [hA.out, HC.out]; exact pre_le g k hg hlt
        · unfold Hid; rw [hA.out, HC.out]; exact pre_next g k hlt
      case measure => simp [intOf]; omega
    · obtain rfl : k = 3 := by omega
      have : a = g := by simpa using hA.out
      subst this
      go_wp2
      go_ret2
      exact ⟨rfl, rfl⟩
end Go.Proofs.Qxb6628470aFmt
