/-
  SEAT b6630560a. THE WALK OF includes (function 11): it answers whether every entry of the small one stands in the big one with a count at least as large.
-/
import Derived.Test.Qxb6630560aValid
namespace Go.Proofs.Qxb6630560a
open Go Go.RowKit

/-- All of the big one below place i lies below all of the small one from place j on. -/
def Low (rb rs : Nat → Int) (ns i j : Nat) : Prop := ∀ i', i' < i → ∀ j', j ≤ j' → j' < ns → rb i' < rs j'

theorem Valid.le {r s : Nat → Int} {n : Nat} (h : Valid r s n) {i j : Nat} (hij : i ≤ j) (hj : j < n) : r i ≤ r j := by
  rcases Nat.lt_or_ge i j with hlt | hge
  · have := h.lt j i hlt hj; omega
  · have : i = j := by omega
    subst this; exact Int.le_refl _

theorem Low.step {rb rs ss : Nat → Int} {ns i j : Nat} (h : Low rb rs ns i j) (hs : Valid rs ss ns) (_hj : j < ns) (hlt : rb i < rs j) : Low rb rs ns (i + 1) j := by
  intro i' hi' j' hj' hn
  by_cases e : i' = i
  · subst e; have := hs.le hj' hn; omega
  · exact h i' (by omega) j' hj' hn

theorem Low.later {rb rs : Nat → Int} {ns i j : Nat} (h : Low rb rs ns i j) : Low rb rs ns i (j + 1) := fun i' hi' j' hj' hn => h i' hi' j' (by omega) hn

theorem not_incl_end {rb sb rs ss : Nat → Int} {nb ns i j : Nat} (h : Low rb rs ns i j) (hi : nb ≤ i) (hj : j < ns) : ¬ Incl rb sb nb rs ss ns := by
  intro hin
  obtain ⟨i', hi', e, _⟩ := hin j hj
  have := h i' (by omega) j (Nat.le_refl _) hj
  omega

theorem not_incl_ne {rb sb rs ss : Nat → Int} {nb ns i j : Nat} (h : Low rb rs ns i j) (hb : Valid rb sb nb) (hj : j < ns) (h1 : ¬ rb i < rs j) (h2 : ¬ rb i = rs j) : ¬ Incl rb sb nb rs ss ns := by
  intro hin
  obtain ⟨i', hi', e, _⟩ := hin j hj
  rcases Nat.lt_or_ge i' i with hlt | hge
  · have := h i' hlt j (Nat.le_refl _) hj; omega
  · have := hb.le hge hi'; omega

theorem not_incl_lt {rb sb rs ss : Nat → Int} {nb ns i j : Nat} (hb : Valid rb sb nb) (hi : i < nb) (hj : j < ns) (h1 : rb i = rs j) (h2 : sb i < ss j) : ¬ Incl rb sb nb rs ss ns := by
  intro hin
  obtain ⟨i', hi', e, f⟩ := hin j hj
  have : i' = i := by
    rcases Nat.lt_trichotomy i' i with hlt | heq | hgt
    · have := hb.lt i i' hlt hi; omega
    · exact heq
    · have := hb.lt i' i hgt hi'; omega
  subst this
  omega

theorem incl_step {rb sb rs ss : Nat → Int} {nb i j : Nat} (h : Incl rb sb nb rs ss j) (hi : i < nb) (h1 : rb i = rs j) (h2 : ¬ sb i < ss j) : Incl rb sb nb rs ss (j + 1) := by
  intro j' hj'
  by_cases e : j' = j
  · subst e; exact ⟨i, hi, h1, by omega⟩
  · exact h j' (by omega)

set_option maxHeartbeats 3200000 in
set_option maxRecDepth 100000 in
theorem incl_any (a0 a1 a2 a3 : Option Addr) (n0 n1 c0 c1 c2 c3 b0 b1 b2 b3 o0 o1 o2 o3 : Nat) (rb sb rs ss : Nat → Int) (w : World)
    (h0 : Hid (Row w a0 n0 b0 o0 rb)) (h1 : Hid (Row w a1 n0 b1 o1 sb)) (h2 : Hid (Row w a2 n1 b2 o2 rs)) (h3 : Hid (Row w a3 n1 b3 o3 ss)) (hn0 : n0 ≤ 32768) (hn1 : n1 ≤ 32768) (hB : Hid (Valid rb sb n0)) (hS : Hid (Valid rs ss n1)) :
    Calls Try.prog 11 #[.slice a0 n0 c0, .slice a1 n0 c1, .slice a2 n1 c2, .slice a3 n1 c3] w fun e w' => ∃ r : Bool, e = .returned (.bool r) ∧ (∃ q, w' = w.drewN q) ∧ (r = true ↔ Incl rb sb n0 rs ss n1) := by
  go_enter Try.func11, Try.ntmps11
  go_wp2
  go_loopw [9, 10] (fun t9 t10 wr => ∃ i j : Nat, i ≤ n0 ∧ j ≤ n1 ∧ Hid (Low rb rs n1 i j) ∧ Hid (Incl rb sb n0 rs ss j) ∧ t9 = .int .i64 (i : Int) ∧ t10 = .int .i64 (j : Int) ∧ ∃ q, wr = w.drewN q) (fun _ t10 _ => n1 - (intOf t10).toNat)
  case atStart => exact ⟨0, 0, by omega, by omega, fun i' hi' => by omega, fun j' hj' => by omega, rfl, rfl, 0, rfl⟩
  case round =>
    obtain ⟨i0, j, hi0, hj, hL0, hI, rfl, rfl, q0, rfl⟩ := hrel
    by_cases hjn : j < n1
    · have i2 := h2.out.index c2 j (j : Int) rfl hjn
      have e2 := h2.out.2.1 j hjn
      have i3 := h3.out.index c3 j (j : Int) rfl hjn
      have e3 := h3.out.2.1 j hjn
      go_wp2
      go_loopw [9] (fun t9 wr => ∃ i : Nat, i ≤ n0 ∧ Hid (Low rb rs n1 i j) ∧ t9 = .int .i64 (i : Int) ∧ ∃ q, wr = w.drewN q) (fun t9 _ => n0 - (intOf t9).toNat)
      case atStart => exact ⟨i0, hi0, hL0, rfl, q0, rfl⟩
      case round =>
        obtain ⟨i, hi, hL, rfl, q, rfl⟩ := hrel
        by_cases hin : i < n0
        · have i0' := h0.out.index c0 i (i : Int) rfl hin
          have e0 := h0.out.2.1 i hin
          have i1 := h1.out.index c1 i (i : Int) rfl hin
          have e1 := h1.out.2.1 i hin
          have hd : decide (n0 ≤ i) = false := by simp; omega
          by_cases hr : rb i < rs j
          · go_wp2
            go_quiet (fail)
            go_wp2
            go_roundw
            case rel => exact ⟨i + 1, by omega, hL.out.step hS.out hjn hr, by go_num, _, rfl⟩
            case measure => simp [intOf]; omega
          · by_cases hr2 : rb i = rs j
            · have hr2' : (rb i != rs j) = false := by simpa using hr2
              by_cases hs2 : sb i < ss j
              · have HN : Hid (¬ Incl rb sb n0 rs ss n1) := not_incl_lt hB.out hin hjn hr2 hs2
                clear hr2
                go_wp2
                go_quiet (fail)
                go_wp2
                go_quiet (fail)
                go_wp2
                go_ret
                exact ⟨false, rfl, by simp only [World.drewN_drewN]; exact ⟨_, rfl⟩, fun h => by (cases h), fun h => absurd h HN.out⟩
              · have HN : Hid (Incl rb sb n0 rs ss (j + 1)) := incl_step hI.out hin hr2 hs2
                clear hr2
                go_wp2
                go_quiet (fail)
                go_wp2
                go_quiet (fail)
                go_wp2
                go_roundw
                case rel => exact ⟨i, j + 1, hi, by omega, hL.out.later, HN, rfl, by go_num, _, rfl⟩
                case measure => simp [intOf]; omega
            · have hr2' : (rb i != rs j) = true := by simpa using hr2
              have HN : Hid (¬ Incl rb sb n0 rs ss n1) := not_incl_ne hL.out hB.out hjn hr hr2
              clear hr2
              go_wp2
              go_quiet (fail)
              go_wp2
              go_quiet (fail)
              go_wp2
              go_ret
              exact ⟨false, rfl, by simp only [World.drewN_drewN]; exact ⟨_, rfl⟩, fun h => by (cases h), fun h => absurd h HN.out⟩
        · have HN : Hid (¬ Incl rb sb n0 rs ss n1) := not_incl_end hL.out (by omega) hjn
          have hd : decide (n0 ≤ i) = true := by simp; omega
          have hd' : decide (i < n0) = false := by simp; omega
          go_wp2
          go_quiet (fail)
          go_wp2
          go_quiet (fail)
          go_wp2
          go_ret
          exact ⟨false, rfl, by simp only [World.drewN_drewN]; exact ⟨_, rfl⟩, fun h => by (cases h), fun h => absurd h HN.out⟩
    · obtain rfl : j = n1 := by omega
      go_wp2
      go_ret
      exact ⟨true, rfl, ⟨_, rfl⟩, fun _ => hI.out, fun _ => rfl⟩
end Go.Proofs.Qxb6630560a
