/-
  SEAT b6625994a. THE TWO BOUNDS ON LENGTHS (functions 5, 17).
-/
import Derived.Test.Qxb6625994aDocs
namespace Go.Proofs.Qxb6625994a
open Go Go.RowKit

def Small (s : Nat → ByteArray) (L : Nat → Nat) (n m : Nat) : Prop := n ≤ 1048576 ∧ m ≤ 1048576 ∧ (∀ i, i < n → (s i).size ≤ 1048576) ∧ ∀ i, i < m → L i ≤ 1048576
def Said (s : Nat → ByteArray) (L : Nat → Nat) (n m : Nat) (e : Ending) : Prop := ∃ r : Bool, e = .returned (.bool r) ∧ (r = true → Small s L n m)

set_option maxHeartbeats 1600000 in
set_option maxRecDepth 100000 in
theorem bytes5_any (a0 a1 : Option Addr) (n m c0 c1 b0 b1 o0 o1 : Nat) (s : Nat → ByteArray) (L : Nat → Nat) (z : Nat → Nat → Int) (cl : Bool) (w : World)
    (h0 : Hid (Row w a0 n b0 o0 fun i => .string (s i))) (h1 : Hid (Docs w a1 m b1 o1 L z)) (hn : (n : Int) ≤ 9223372036854775807) (hm : (m : Int) ≤ 9223372036854775807) :
    Calls Try.prog 5 #[.slice a0 n c0, .slice a1 m c1, .bool cl] w fun e w' => w' = w ∧ Said s L n m e := by
  by_cases hbn : 1048576 < (n : Int)
  · go_enter Try.func5, Try.ntmps5
    go_wp2
    go_ret
    exact ⟨rfl, _, rfl, fun h => by cases h⟩
  · have hbn' : decide (1048576 < (n : Int)) = false := by simpa using hbn
    go_enter Try.func5, Try.ntmps5
    go_wp2
    go_loop [7, 8] (fun t7 t8 => ∃ (k : Nat) (x : Int), k ≤ n ∧ 0 ≤ x ∧ x ≤ 1048576 ∧ Hid (∀ i, i < k → (s i).size ≤ 1048576) ∧ t8 = .int .i64 (k : Int) ∧ t7 = .int .i64 x) (fun _ t8 => n - (intOf t8).toNat)
    case atStart => exact ⟨0, (n : Int), by omega, by omega, by omega, fun i hi => by omega, rfl, by go_num⟩
    case round =>
      obtain ⟨k, x, hk, hx0, hx1, hS, rfl, rfl⟩ := hrel
      by_cases hlt : k < n
      · have i1 := h0.out.index22 c0 k (k : Int) rfl hlt
        have e1 := h0.out.2 k hlt
        by_cases h2 : 1048576 < ((s k).size : Int)
        · go_wp2
          go_ret
          exact ⟨rfl, _, rfl, fun h => by cases h⟩
        · have h2' : decide (1048576 < ((s k).size : Int)) = false := by simpa using h2
          by_cases h3 : 1048576 < x + ((s k).size : Int)
          · go_wp2
            go_ret
            exact ⟨rfl, _, rfl, fun h => by cases h⟩
          · have h3' : decide (1048576 < x + ((s k).size : Int)) = false := by simpa using h3
            go_wp2
            go_round
            case rel => exact ⟨k + 1, _, by omega, by omega, by omega, fun i hi => by by_cases e : i = k; subst e; omega; exact hS.out i (by omega), by go_num, rfl⟩
            case measure => simp [intOf]; omega
      · obtain rfl : k = n := by omega
        by_cases hbm : 1048576 < (m : Int)
        · go_wp2
          go_ret
          exact ⟨rfl, _, rfl, fun h => by cases h⟩
        · have hbm' : decide (1048576 < (m : Int)) = false := by simpa using hbm
          by_cases h3 : 1048576 < x + (m : Int)
          · go_wp2
            go_ret
            exact ⟨rfl, _, rfl, fun h => by cases h⟩
          · have h3' : decide (1048576 < x + (m : Int)) = false := by simpa using h3
            go_wp2
            go_loop [7, 9] (fun t7 t9 => ∃ (j : Nat) (y : Int), j ≤ m ∧ 0 ≤ y ∧ y ≤ 1048576 ∧ Hid (∀ i, i < j → L i ≤ 1048576) ∧ t9 = .int .i64 (j : Int) ∧ t7 = .int .i64 y) (fun _ t9 => m - (intOf t9).toNat)
            case atStart => exact ⟨0, _, by omega, by omega, by omega, fun i hi => by omega, rfl, rfl⟩
            case round =>
              obtain ⟨j, y, hj, hy0, hy1, hT, rfl, rfl⟩ := hrel
              by_cases hjl : j < m
              · have i2 := index23 h1.out.1 c1 j (j : Int) rfl hjl
                obtain ⟨v, e2, da, dc, db, doff, rfl, _, _⟩ := h1.out.2 j hjl
                by_cases h4 : 1048576 < (L j : Int)
                · go_wp2
                  go_ret
                  exact ⟨rfl, _, rfl, fun h => by cases h⟩
                · have h4' : decide (1048576 < (L j : Int)) = false := by simpa using h4
                  by_cases h5 : 1048576 < y + (L j : Int)
                  · go_wp2
                    go_ret
                    exact ⟨rfl, _, rfl, fun h => by cases h⟩
                  · have h5' : decide (1048576 < y + (L j : Int)) = false := by simpa using h5
                    go_wp2
                    go_round
                    case rel => exact ⟨j + 1, _, by omega, by omega, by omega, fun i hi => by by_cases e : i = j; subst e; omega; exact hT.out i (by omega), by go_num, rfl⟩
                    case measure => simp [intOf]; omega
              · obtain rfl : j = m := by omega
                go_wp2
                go_ret
                exact ⟨rfl, _, rfl, fun _ => ⟨by omega, by omega, hS.out, hT.out⟩⟩

set_option maxHeartbeats 1600000 in
set_option maxRecDepth 100000 in
theorem bytes17_any (a0 a1 : Option Addr) (n m c0 c1 b0 b1 o0 o1 : Nat) (s : Nat → ByteArray) (L : Nat → Nat) (z : Nat → Nat → Int) (cl : Int) (w : World)
    (h0 : Hid (Row w a0 n b0 o0 fun i => .string (s i))) (h1 : Hid (Docs w a1 m b1 o1 L z)) (hn : (n : Int) ≤ 9223372036854775807) (hm : (m : Int) ≤ 9223372036854775807) :
    Calls Try.prog 17 #[.slice a0 n c0, .slice a1 m c1, .int .i64 cl] w fun e w' => w' = w ∧ Said s L n m e := by
  by_cases hbn : 1048576 < (n : Int)
  · go_enter Try.func17, Try.ntmps17
    go_wp2
    go_ret
    exact ⟨rfl, _, rfl, fun h => by cases h⟩
  · have hbn' : decide (1048576 < (n : Int)) = false := by simpa using hbn
    go_enter Try.func17, Try.ntmps17
    go_wp2
    go_loop [7, 8] (fun t7 t8 => ∃ (k : Nat) (x : Int), k ≤ n ∧ 0 ≤ x ∧ x ≤ 1048576 ∧ Hid (∀ i, i < k → (s i).size ≤ 1048576) ∧ t8 = .int .i64 (k : Int) ∧ t7 = .int .i64 x) (fun _ t8 => n - (intOf t8).toNat)
    case atStart => exact ⟨0, (n : Int), by omega, by omega, by omega, fun i hi => by omega, rfl, by go_num⟩
    case round =>
      obtain ⟨k, x, hk, hx0, hx1, hS, rfl, rfl⟩ := hrel
      by_cases hlt : k < n
      · have i1 := h0.out.index22 c0 k (k : Int) rfl hlt
        have e1 := h0.out.2 k hlt
        by_cases h2 : 1048576 < ((s k).size : Int)
        · go_wp2
          go_ret
          exact ⟨rfl, _, rfl, fun h => by cases h⟩
        · have h2' : decide (1048576 < ((s k).size : Int)) = false := by simpa using h2
          by_cases h3 : 1048576 < x + ((s k).size : Int)
          · go_wp2
            go_ret
            exact ⟨rfl, _, rfl, fun h => by cases h⟩
          · have h3' : decide (1048576 < x + ((s k).size : Int)) = false := by simpa using h3
            go_wp2
            go_round
            case rel => exact ⟨k + 1, _, by omega, by omega, by omega, fun i hi => by by_cases e : i = k; subst e; omega; exact hS.out i (by omega), by go_num, rfl⟩
            case measure => simp [intOf]; omega
      · obtain rfl : k = n := by omega
        by_cases hbm : 1048576 < (m : Int)
        · go_wp2
          go_ret
          exact ⟨rfl, _, rfl, fun h => by cases h⟩
        · have hbm' : decide (1048576 < (m : Int)) = false := by simpa using hbm
          by_cases h3 : 1048576 < x + (m : Int)
          · go_wp2
            go_ret
            exact ⟨rfl, _, rfl, fun h => by cases h⟩
          · have h3' : decide (1048576 < x + (m : Int)) = false := by simpa using h3
            go_wp2
            go_loop [7, 9] (fun t7 t9 => ∃ (j : Nat) (y : Int), j ≤ m ∧ 0 ≤ y ∧ y ≤ 1048576 ∧ Hid (∀ i, i < j → L i ≤ 1048576) ∧ t9 = .int .i64 (j : Int) ∧ t7 = .int .i64 y) (fun _ t9 => m - (intOf t9).toNat)
            case atStart => exact ⟨0, _, by omega, by omega, by omega, fun i hi => by omega, rfl, rfl⟩
            case round =>
              obtain ⟨j, y, hj, hy0, hy1, hT, rfl, rfl⟩ := hrel
              by_cases hjl : j < m
              · have i2 := index23 h1.out.1 c1 j (j : Int) rfl hjl
                obtain ⟨v, e2, da, dc, db, doff, rfl, _, _⟩ := h1.out.2 j hjl
                by_cases h4 : 1048576 < (L j : Int)
                · go_wp2
                  go_ret
                  exact ⟨rfl, _, rfl, fun h => by cases h⟩
                · have h4' : decide (1048576 < (L j : Int)) = false := by simpa using h4
                  by_cases h5 : 1048576 < y + (L j : Int)
                  · go_wp2
                    go_ret
                    exact ⟨rfl, _, rfl, fun h => by cases h⟩
                  · have h5' : decide (1048576 < y + (L j : Int)) = false := by simpa using h5
                    go_wp2
                    go_round
                    case rel => exact ⟨j + 1, _, by omega, by omega, by omega, fun i hi => by by_cases e : i = j; subst e; omega; exact hT.out i (by omega), by go_num, rfl⟩
                    case measure => simp [intOf]; omega
              · obtain rfl : j = m := by omega
                go_wp2
                go_ret
                exact ⟨rfl, _, rfl, fun _ => ⟨by omega, by omega, hS.out, hT.out⟩⟩
end Go.Proofs.Qxb6625994a
