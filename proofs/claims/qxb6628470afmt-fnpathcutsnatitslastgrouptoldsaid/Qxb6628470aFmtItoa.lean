/-
  SEAT b6628470aF. THE WALK OF itoaInt (function 7).
-/
import Derived.Test.Qxb6628470aFmtFacts
import Derived.WalkKit
import Derived.WalkSpells
import Derived.WalkLawsBesides
import Derived.Below
import Derived.Outline
import Derived.Laws.IdiomStrings
import Derived.Lib.ItoaLen
namespace Go.Proofs.Qxb6628470aFmt
open Go Go.RowKit

/-- The cells from p on hold the bytes tl, up to the row's end. -/
def Held (p : Nat) (C : Array Value) (tl : List UInt8) : Prop :=
  tl.length + p = 24 ∧ C.size = 24 ∧ ∀ j (h : j < tl.length), C[p + j]? = some (.int .u8 (tl[j].toNat : Int))

theorem Held.put {m : Nat} {C : Array Value} {tl : List UInt8} (h : Held (m + 1) C tl) (c : Nat) (hc : c < 256) (z : Int) (hz : z = (c : Int)) : Held m (C.setIfInBounds m (.int .u8 z)) (UInt8.ofNat c :: tl) := by
  obtain ⟨h1, h2, h3⟩ := h
  subst hz
  refine ⟨by simp; omega, by simp [h2], fun j hj => ?_⟩
  cases j with
  | zero =>
    have e : (UInt8.ofNat c).toNat = c := by rw [UInt8.toNat_ofNat']; exact Nat.mod_eq_of_lt hc
    simp only [Nat.add_zero, List.getElem_cons_zero, e]
    rw [Array.getElem?_setIfInBounds_self_of_lt (by omega)]
  | succ j =>
    have := h3 j (by simpa using hj)
    rw [Array.getElem?_setIfInBounds_ne (by omega)]
    simp only [List.getElem_cons_succ]
    rw [← this]
    congr 1
    omega

/-- What the loop keeps: U's digits are u's and then the tail, which lies in the cells from m + 1 on. -/
def Inv (U u m : Nat) (C : Array Value) (tl : List UInt8) : Prop :=
  Lib.decDigits U = Lib.decDigits u ++ tl ∧ Held (m + 1) C tl ∧ Lib.nDigits u + tl.length ≤ 20

theorem Inv.step {U u m : Nat} {C : Array Value} {tl : List UInt8} (h : Inv U u m C tl) (hu : ¬ u / 10 = 0) :
    ∃ m', m = m' + 1 ∧ Inv U (u / 10) m' (C.setIfInBounds m (.int .u8 (48 + (u : Int) % 10))) (UInt8.ofNat (48 + u % 10) :: tl) := by
  obtain ⟨h1, h2, h3⟩ := h
  have hp := Lib.nDigits_pos u
  have hl := h2.1
  rw [Lib.nDigits_big (by omega)] at h3
  refine ⟨m - 1, by omega, ?_, ?_, ?_⟩
  · rw [h1, Lib.decDigits.eq_1 u, dif_neg (by omega)]; simp
  · rw [show m - 1 + 1 = m by omega]
    exact h2.put _ (by omega) _ (by omega)
  · simp; omega

theorem Inv.last {U u m : Nat} {C : Array Value} {tl : List UInt8} (h : Inv U u m C tl) (hu : u / 10 = 0) :
    Lib.decDigits U = UInt8.ofNat (48 + u % 10) :: tl ∧ Held m (C.setIfInBounds m (.int .u8 (48 + (u : Int) % 10))) (UInt8.ofNat (48 + u % 10) :: tl) ∧ 4 ≤ m := by
  obtain ⟨h1, h2, h3⟩ := h
  have hp := Lib.nDigits_pos u
  have hl := h2.1
  refine ⟨?_, h2.put _ (by omega) _ (by omega), by omega⟩
  rw [h1, Lib.decDigits_one (by omega), show u % 10 = u by omega]; rfl

theorem slice_at (b m : Nat) (hm : m < 24) (wx : World) :
    (Instr.sliceAt 37 (.pointer (some ⟨b, 0, none⟩)) (some (.int .i64 (m : Int))) none none).run Tryf.prog wx = .ok (.slice (some ⟨b, m, none⟩) (24 - m) (24 - m)) wx := by
  have e : Tryf.prog.arrayLen 37 = 24 := by kernel_rfl
  have es : ∀ wx, (sizeOf (Tryf.prog.elem 37)).run Tryf.prog wx = .ok 1 wx := fun _ => by kernel_rfl
  rw [run_sliceAt_array_l wx 37 ⟨b, 0, none⟩ (by kernel_rfl) .i64 (m : Int) (by omega) (by rw [e]; omega), es, e]
  simp only [Result.andThen, slicedAt, Int.toNat_natCast, Nat.mul_one]
  rw [if_neg (by omega)]
  simp [Addr.add]
  omega

theorem conv_at (w : World) (C : Array Value) (m : Nat) (tl : List UInt8) (h : Held m C tl) :
    (convert 38 9 (.slice (some ⟨w.heap.size, m, none⟩) (24 - m) (24 - m))).run Tryf.prog (w.alloc (.cells C 37)) = .ok (.string (S tl)) (w.alloc (.cells C 37)) := by
  obtain ⟨h1, h2, h3⟩ := h
  rw [show 24 - m = tl.length by omega]
  refine run_convert_bytes_back _ 38 9 5 _ _ tl Tryf.underlying38 Tryf.underlying5 Tryf.underlying9 fun j hj => ?_
  rw [show (⟨w.heap.size, m, none⟩ : Addr).add j = ⟨w.heap.size, m + j, none⟩ by simp [Addr.add], World.cell?_alloc_mark]
  exact h3 j hj

set_option maxHeartbeats 800000 in
theorem itoaInt_pos (U : Nat) (w : World) (h1 : (U : Int) ≤ 9223372036854775807) (hd : Hid (Lib.nDigits U ≤ 20)) :
    Calls Tryf.prog 7 #[.int .i64 (U : Int)] w fun e w' => e = .returned (.string (S (Lib.decDigits U))) ∧ Below w.heap.size w w' := by
  have hneg : ¬ (U : Int) < 0 := by omega
  go_enter Tryf.func7, Tryf.ntmps7
  go_wp2
  go_loopw [3, 6] (fun t3 t6 wr => ∃ (u m : Nat) (C : Array Value) (tl : List UInt8), Inv U u m C tl ∧ (u : Int) ≤ 9223372036854775807 ∧ t3 = .int .u64 (u : Int) ∧ t6 = .int .i64 ((m : Int) + 1) ∧ wr = w.alloc (.cells C 37)) (fun t3 _ _ => (intOf t3).toNat)
  case atStart => exact ⟨U, 23, _, [], ⟨by simp, ⟨rfl, rfl, fun j h => by simp at h⟩, by simpa using hd.out⟩, h1, rfl, rfl, rfl⟩
  case round =>
    obtain ⟨u, m, C, tl, hI, hu, rfl, rfl, rfl⟩ := hrel
    have hm : m ≤ 23 := by have := hI.2.1.1; omega
    have hCm : C[m]? = some (C[m]'(by have := hI.2.1.2.1; omega)) := by simp
    by_cases hlast : u / 10 = 0
    · obtain ⟨hdig, hheld, hm4⟩ := hI.last hlast
      have hs := slice_at w.heap.size m (by omega)
      rw [← hdig] at hheld
      have hcv := conv_at w _ m _ hheld
      clear hdig
      go_wp2
      go_ret
      exact ⟨rfl, (Below.refl _ _).alloc (Nat.le_refl _) _⟩
    · obtain ⟨m', rfl, hI'⟩ := hI.step hlast
      go_wp2
      go_roundw
      case rel => exact ⟨u / 10, m', _, _, hI', by omega, by go_num, by go_num, rfl⟩
      case measure => simp [intOf]; omega

theorem neg_wrap (U : Nat) (h0 : 0 < U) (h1 : (U : Int) ≤ 9223372036854775808) : IntKind.u64.wrap (-IntKind.u64.wrap (-(U : Int))) = (U : Int) := by
  have e : ∀ z : Int, IntKind.u64.wrap z = z % 18446744073709551616 := fun z => by simp [IntKind.wrap, IntKind.bits, IntKind.signed]
  rw [e, e]
  omega

set_option maxHeartbeats 800000 in
theorem itoaInt_neg (U : Nat) (w : World) (h0 : (0 : Int) < U) (h1 : (U : Int) ≤ 9223372036854775808) (hd : Hid (Lib.nDigits U ≤ 20)) :
    Calls Tryf.prog 7 #[.int .i64 (-(U : Int))] w fun e w' => e = .returned (.string (S (45 :: Lib.decDigits U))) ∧ Below w.heap.size w w' := by
  have hneg : -(U : Int) < 0 := by omega
  have HW : Hid (IntKind.u64.wrap (-IntKind.u64.wrap (-(U : Int))) = (U : Int)) := neg_wrap U (by omega) h1
  go_enter Tryf.func7, Tryf.ntmps7
  go_wp2
  go_loopw [3, 6] (fun t3 t6 wr => ∃ (u m : Nat) (C : Array Value) (tl : List UInt8), Inv U u m C tl ∧ (u : Int) ≤ 9223372036854775808 ∧ t3 = .int .u64 (u : Int) ∧ t6 = .int .i64 ((m : Int) + 1) ∧ wr = w.alloc (.cells C 37)) (fun t3 _ _ => (intOf t3).toNat)
  case atStart => exact ⟨U, 23, _, [], ⟨by simp, ⟨rfl, rfl, fun j h => by simp at h⟩, by simpa using hd.out⟩, h1, by rw [HW.out], rfl, rfl⟩
  case round =>
    obtain ⟨u, m, C, tl, hI, hu, rfl, rfl, rfl⟩ := hrel
    have hm : m ≤ 23 := by have := hI.2.1.1; omega
    have hCm : C[m]? = some (C[m]'(by have := hI.2.1.2.1; omega)) := by simp
    by_cases hlast : u / 10 = 0
    · obtain ⟨hdig, hheld, hm4⟩ := hI.last hlast
      obtain ⟨m', rfl⟩ : ∃ m', m = m' + 1 := ⟨m - 1, by omega⟩
      have hs := slice_at w.heap.size m' (by omega)
      rw [← hdig] at hheld
      have hheld' := hheld.put 45 (by decide) 45 rfl
      have hcv := conv_at w _ m' _ hheld'
      have hCm' : (C.setIfInBounds (m' + 1) (.int .u8 (48 + (u : Int) % 10)))[m']? = some (C[m']'(by have := hI.2.1.2.1; omega)) := by rw [Array.getElem?_setIfInBounds_ne (by omega)]; simp
      clear hdig
      go_wp2
      go_ret
      exact ⟨rfl, (Below.refl _ _).alloc (Nat.le_refl _) _⟩
    · obtain ⟨m', rfl, hI'⟩ := hI.step hlast
      go_wp2
      go_roundw
      case rel => exact ⟨u / 10, m', _, _, hI', by omega, by go_num, by go_num, rfl⟩
      case measure => simp [intOf]; omega

theorem nDigits_le : ∀ (k u : Nat), u < 10 ^ (k + 1) → Lib.nDigits u ≤ k + 1
  | 0, u, h => by rw [Lib.nDigits_small (by simpa using h)]; exact Nat.le_refl _
  | k + 1, u, h => by
    by_cases h1 : u < 10
    · rw [Lib.nDigits_small h1]; omega
    · rw [Lib.nDigits_big h1]
      have := nDigits_le k (u / 10) (by rw [Nat.pow_succ] at h; omega)
      omega

theorem itoaInt_any (v : Int) (w : World) (h0 : -9223372036854775808 ≤ v) (h1 : v ≤ 9223372036854775807) :
    Calls Tryf.prog 7 #[.int .i64 v] w fun e w' => e = .returned (.string (S (Lib.itoa v))) ∧ Below w.heap.size w w' := by
  have hd : ∀ U : Nat, U ≤ 9223372036854775808 → Lib.nDigits U ≤ 20 := fun U hU => nDigits_le 19 U (Nat.lt_of_le_of_lt hU (by decide))
  by_cases hneg : v < 0
  · obtain ⟨U, rfl⟩ : ∃ U : Nat, v = -(U : Int) := ⟨v.natAbs, by omega⟩
    have e : Lib.itoa (-(U : Int)) = 45 :: Lib.decDigits U := by unfold Lib.itoa; rw [if_pos hneg]; simp
    rw [e]
    exact itoaInt_neg U w (by omega) (by omega) (hd U (by omega))
  · obtain ⟨U, rfl⟩ : ∃ U : Nat, v = (U : Int) := ⟨v.toNat, by omega⟩
    have e : Lib.itoa (U : Int) = Lib.decDigits U := by unfold Lib.itoa; rw [if_neg hneg]; simp
    rw [e]
    exact itoaInt_pos U w h1 (hd U (by omega))
end Go.Proofs.Qxb6628470aFmt
