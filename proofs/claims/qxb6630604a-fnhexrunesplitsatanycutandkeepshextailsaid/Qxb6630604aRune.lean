/-
  SEAT b6630604a. HOW A ROW OF BYTES IS READ; THE WALKS OF hexRune (function 9), ZZhexRune (function 7), hexVal (function 6) AND OF THE TWO BOUNDS (functions 5, 8).
-/
import Derived.Test.Qxb6630604aRows
import Derived.Test.Qxb6630604aPlain
import Derived.WalkKit
import Derived.WalkSpells
import Derived.WalkLawsBesides
import Derived.Below
import Derived.Outline
namespace Go.Proofs.Qxb6630604a
open Go Go.RowKit

/-- A slice of len bytes at a: nil with no element, or the cells of block b from off on; its numbers are z. -/
def Row (w : World) (a : Option Addr) (len b off : Nat) (z : Nat → Int) : Prop :=
  (len = 0 ∨ a = some ⟨b, off, none⟩) ∧ (∀ i, i < len → w.cell? ⟨b, off + i, none⟩ = some (.int .u8 (z i))) ∧ ∀ i, i < len → 0 ≤ z i ∧ z i ≤ 255

theorem Row.index {w : World} {a : Option Addr} {len b off : Nat} {z : Nat → Int} (h : Row w a len b off z) (c k : Nat) (x : Int) (hx : x = (k : Int)) (hk : k < len) (wx : World) :
    (Instr.indexAt 22 (.slice a len c) (.int .i64 x)).run Try.prog wx = .ok (.pointer (some ⟨b, off + k, none⟩)) wx := by
  subst hx
  rcases h.1 with h0 | rfl
  · omega
  · have es : ∀ wx, (sizeOf (Try.prog.elem 22)).run Try.prog wx = .ok 1 wx := fun _ => by kernel_rfl
    rw [run_indexAt_slice wx 22 ⟨b, off, none⟩ len c .i64 (k : Int) (by kernel_rfl), if_pos (by omega), es]
    simp [Result.andThen, Addr.add]

/-- The rune of a number: its low 32 bits, signed. -/
def rv (x : Nat) : Int := wrap32 (x : Int)

theorem rv_zero : rv 0 = 0 := by unfold rv wrap32; omega

theorem rv_or (a d : Int) (x y : Nat) (ha : a % 4294967296 = (x : Int) % 4294967296) (hb : d % 4294967296 = (y : Int) % 4294967296) : bits .or .i32 a d = rv (x ||| y) := by
  rw [or32 a d x y ha hb, IntKind.wrap_i32]
  unfold rv wrap32
  exact congrArg (fun t => t - 2147483648) rfl

theorem rune_mod (x : Nat) : wrap32 (rv x * 16) % 4294967296 = ((x <<< 4 : Nat) : Int) % 4294967296 := by
  rw [Nat.shiftLeft_eq]
  unfold rv wrap32
  omega

theorem rune_step (x : Nat) (d : Int) (h0 : 0 ≤ d) (h1 : d ≤ 255) : bits .or .i32 (wrap32 (rv x * 16)) d = rv ((x <<< 4) ||| d.toNat) := by
  exact rv_or _ _ _ _ (rune_mod x) (by omega)

set_option maxHeartbeats 800000 in
theorem rune_any (a : Option Addr) (n c b off : Nat) (z : Nat → Int) (w : World) (h : Hid (Row w a n b off z)) (hn : n ≤ 65536) :
    Calls Try.prog 9 #[.slice a n c] w fun e w' => e = .returned (.int .i32 (rv (R z n))) ∧ w' = w := by
  go_enter Try.func9, Try.ntmps9
  go_wp2
  go_loop [3, 8, 5] (fun t3 t8 _ => ∃ (k : Nat) (r : Int), k ≤ n ∧ Hid (r = rv (R z k)) ∧ t8 = .int .i64 (k : Int) ∧ t3 = .int .i32 r) (fun _ t8 _ => n - (intOf t8).toNat)
  case atStart => exact ⟨0, 0, by omega, rv_zero.symm, rfl, rfl⟩
  case round =>
    obtain ⟨k, r, hk, hR, rfl, rfl⟩ := hrel
    by_cases hlt : k < n
    · have i1 := h.out.index c k (k : Int) rfl hlt
      have e1 := h.out.2.1 k hlt
      have p1 := h.out.2.2 k hlt
      have hst := rune_step (R z k) (dg (z k)) (dg_range _ p1.1 p1.2).1 (dg_range _ p1.1 p1.2).2
      rw [← hR.out] at hst
      have HS : Hid (bits .or .i32 (wrap32 (r * 16)) (dg (z k)) = rv (R z (k + 1))) := hst
      clear hst
      obtain ⟨y, hy⟩ : ∃ y, z k = y := ⟨_, rfl⟩
      rw [hy] at e1 p1 HS
      by_cases h1 : y ≤ 57
      · have HD : Hid (dg y = (y - 48) % 256) := by unfold Hid dg; rw [if_pos h1]
        rw [HD.out] at HS
        clear hy
        go_wp2
        go_round
        case rel => exact ⟨k + 1, _, by omega, HS, by go_num, rfl⟩
        case measure => simp [intOf]; omega
      · by_cases h2 : y ≤ 70
        · have HD : Hid (dg y = y - 55) := by unfold Hid dg; rw [if_neg h1, if_pos h2]
          rw [HD.out] at HS
          clear hy
          go_wp2
          go_round
          case rel => exact ⟨k + 1, _, by omega, HS, by go_num, rfl⟩
          case measure => simp [intOf]; omega
        · have HD : Hid (dg y = (y - 87) % 256) := by unfold Hid dg; rw [if_neg h1, if_neg h2]
          rw [HD.out] at HS
          clear hy
          go_wp2
          go_round
          case rel => exact ⟨k + 1, _, by omega, HS, by go_num, rfl⟩
          case measure => simp [intOf]; omega
    · obtain rfl : k = n := by omega
      go_wp2
      go_ret
      exact ⟨by rw [hR.out]; rfl, rfl⟩

set_option maxHeartbeats 400000 in
theorem zzrune_any (a : Option Addr) (n c b off : Nat) (z : Nat → Int) (w : World) (h : Hid (Row w a n b off z)) (hn : n ≤ 65536) :
    Calls Try.prog 7 #[.slice a n c] w fun e w' => e = .returned (.int .i32 (rv (R z n))) ∧ w' = w := by
  go_enter Try.func7, Try.ntmps7
  go_wp2_with fail
  refine (rune_any a n c b off z w h hn).mono ?_
  rintro e w1 ⟨rfl, rfl⟩
  go_wp2_with fail
  go_ret
  exact ⟨rfl, rfl⟩

set_option maxHeartbeats 400000 in
theorem bytes5_any (a : Option Addr) (n c : Nat) (w : World) (hn : (n : Int) ≤ 9223372036854775807) : Calls Try.prog 5 #[.slice a n c] w fun e w' => ∃ r : Bool, e = .returned (.bool r) ∧ w' = w := by
  go_enter Try.func5, Try.ntmps5
  go_wp2
  all_goals
    go_ret
    exact ⟨_, rfl, rfl⟩

set_option maxHeartbeats 400000 in
theorem bytes8_any (a : Option Addr) (n c : Nat) (x : Int) (w : World) (hn : (n : Int) ≤ 9223372036854775807) : Calls Try.prog 8 #[.slice a n c, .int .i64 x] w fun e w' => ∃ r : Bool, e = .returned (.bool r) ∧ w' = w := by
  go_enter Try.func8, Try.ntmps8
  go_wp2
  all_goals
    go_ret
    exact ⟨_, rfl, rfl⟩

/-- The two alphabets. -/
def loc (k : Nat) : Int := if k < 10 then 48 + k else 87 + k
def upc (k : Nat) : Int := if k < 10 then 48 + k else 55 + k

theorem lo_at (k : Nat) (hk : k < 16) (wx : World) : (Instr.index 9 (.string ⟨#[48, 49, 50, 51, 52, 53, 54, 55, 56, 57, 97, 98, 99, 100, 101, 102]⟩) (.int .i64 (k : Int))).run Try.prog wx = .ok (.int .u8 (loc k)) wx := by
  rw [run_index_string wx 9 _ .i64 (k : Int) Try.underlying9, dif_pos ⟨by omega, by simp [ByteArray.size]; omega⟩]
  have : ∀ j : Fin 16, (((⟨#[48, 49, 50, 51, 52, 53, 54, 55, 56, 57, 97, 98, 99, 100, 101, 102]⟩ : ByteArray)[j.val]'(j.isLt)).toNat : Int) = loc j.val := by decide
  have h := this ⟨k, hk⟩
  simp only [Int.toNat_natCast]
  rw [← h]

theorem up_at (k : Nat) (hk : k < 16) (wx : World) : (Instr.index 9 (.string ⟨#[48, 49, 50, 51, 52, 53, 54, 55, 56, 57, 65, 66, 67, 68, 69, 70]⟩) (.int .i64 (k : Int))).run Try.prog wx = .ok (.int .u8 (upc k)) wx := by
  rw [run_index_string wx 9 _ .i64 (k : Int) Try.underlying9, dif_pos ⟨by omega, by simp [ByteArray.size]; omega⟩]
  have : ∀ j : Fin 16, (((⟨#[48, 49, 50, 51, 52, 53, 54, 55, 56, 57, 65, 66, 67, 68, 69, 70]⟩ : ByteArray)[j.val]'(j.isLt)).toNat : Int) = upc j.val := by decide
  have h := this ⟨k, hk⟩
  simp only [Int.toNat_natCast]
  rw [← h]

theorem hex_found (y : Int) (h : isHex y) (k : Nat) (hk : k < 16) : (loc k = y ∨ upc k = y) ↔ (k : Int) = dg y := by
  unfold loc upc dg
  unfold isHex at h
  split <;> split <;> (try split) <;> omega

theorem hex_none (y : Int) (h : ¬ isHex y) (k : Nat) (hk : k < 16) : ¬ loc k = y ∧ ¬ upc k = y := by
  unfold loc upc
  unfold isHex at h
  split <;> omega

set_option maxHeartbeats 800000 in
theorem hexVal_yes (y : Int) (w : World) (hy : Hid (isHex y)) :
    Calls Try.prog 6 #[.int .u8 y] w fun e w' => e = .returned (.tuple #[.int .u32 (dg y), .bool true]) ∧ w' = w := by
  have hd := dg_hex y hy.out
  go_enter Try.func6, Try.ntmps6
  go_wp2
  go_loop [4] (fun t4 => ∃ k : Nat, (k : Int) ≤ dg y ∧ t4 = .int .i64 (k : Int)) (fun t4 => 16 - (intOf t4).toNat)
  case atStart => exact ⟨0, by omega, rfl⟩
  case round =>
    obtain ⟨k, hk, rfl⟩ := hrel
    have hlt : k < 16 := by omega
    have i1 := lo_at k hlt
    have i2 := up_at k hlt
    have hf := hex_found y hy.out k hlt
    by_cases hkd : (k : Int) = dg y
    · have HK : Hid ((k : Int) = dg y) := hkd
      by_cases hl : loc k = y
      · have hl' : (loc k == y) = true := by simpa using hl
        clear hkd hf hl
        go_wp2
        go_ret2
        exact ⟨by rw [← HK.out]; rfl, rfl⟩
      · have hl' : (loc k == y) = false := by simpa using hl
        have hu' : (upc k == y) = true := by rcases hf.2 hkd with h | h; exact absurd h hl; simpa using h
        clear hkd hf hl
        go_wp2
        go_ret2
        exact ⟨by rw [← HK.out]; rfl, rfl⟩
    · have hl' : (loc k == y) = false := by have := fun h => hkd (hf.1 (Or.inl h)); simpa using this
      have hu' : (upc k == y) = false := by have := fun h => hkd (hf.1 (Or.inr h)); simpa using this
      clear hf
      go_wp2
      go_round
      case rel => exact ⟨k + 1, by omega, by go_num⟩
      case measure => simp [intOf]; omega

set_option maxHeartbeats 800000 in
theorem hexVal_no (y : Int) (w : World) (hy : Hid (¬ isHex y)) :
    Calls Try.prog 6 #[.int .u8 y] w fun e w' => e = .returned (.tuple #[.int .u32 0, .bool false]) ∧ w' = w := by
  go_enter Try.func6, Try.ntmps6
  go_wp2
  go_loop [4] (fun t4 => ∃ k : Nat, k ≤ 16 ∧ t4 = .int .i64 (k : Int)) (fun t4 => 16 - (intOf t4).toNat)
  case atStart => exact ⟨0, by omega, rfl⟩
  case round =>
    obtain ⟨k, hk, rfl⟩ := hrel
    by_cases hlt : k < 16
    · have i1 := lo_at k hlt
      have i2 := up_at k hlt
      have hf := hex_none y hy.out k hlt
      have hl' : (loc k == y) = false := by simpa using hf.1
      have hu' : (upc k == y) = false := by simpa using hf.2
      clear hf
      go_wp2
      go_round
      case rel => exact ⟨k + 1, by omega, by go_num⟩
      case measure => simp [intOf]; omega
    · go_wp2
      go_ret2
      exact ⟨rfl, rfl⟩
end Go.Proofs.Qxb6630604a
