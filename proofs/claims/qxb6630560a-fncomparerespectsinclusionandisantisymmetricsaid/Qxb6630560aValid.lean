/-
  SEAT b6630560a. HOW A ROW OF NUMBERS IS READ; THE WALKS OF validVersion (function 6) AND OF THE TWO BOUNDS ON LENGTHS (functions 5, 10).
-/
import Derived.Test.Qxb6630560aRows
import Derived.Test.Qxb6630560aPlain
import Derived.WalkKit
import Derived.WalkSpells
import Derived.WalkLawsBesides
import Derived.Below
import Derived.Outline
import Derived.BigQuiet
import Derived.Deep.QuietTactic
namespace Go.Proofs.Qxb6630560a
open Go Go.RowKit

/-- A slice of len uint64s at a: nil with no element, or the cells of block b from off on; its numbers are z. -/
def Row (w : World) (a : Option Addr) (len b off : Nat) (z : Nat → Int) : Prop :=
  (len = 0 ∨ a = some ⟨b, off, none⟩) ∧ (∀ i, i < len → w.cell? ⟨b, off + i, none⟩ = some (.int .u64 (z i))) ∧ ∀ i, i < len → 0 ≤ z i

theorem Row.index {w : World} {a : Option Addr} {len b off : Nat} {z : Nat → Int} (h : Row w a len b off z) (c k : Nat) (x : Int) (hx : x = (k : Int)) (hk : k < len) (wx : World) :
    (Instr.indexAt 22 (.slice a len c) (.int .i64 x)).run Try.prog wx = .ok (.pointer (some ⟨b, off + k, none⟩)) wx := by
  subst hx
  rcases h.1 with h0 | rfl
  · omega
  · have es : ∀ wx, (sizeOf (Try.prog.elem 22)).run Try.prog wx = .ok 1 wx := fun _ => by kernel_rfl
    rw [run_indexAt_slice wx 22 ⟨b, off, none⟩ len c .i64 (k : Int) (by kernel_rfl), if_pos (by omega), es]
    simp [Result.andThen, Addr.add]

theorem Row.kept {w w' : World} {a : Option Addr} {len b off : Nat} {z : Nat → Int} (h : Row w a len b off z) (hb : Below w.heap.size w w') : Row w' a len b off z := by
  refine ⟨h.1, fun i hi => ?_, h.2.2⟩
  have := h.2.1 i hi
  rw [hb.cell (block_lt_of_cell this)]
  exact this

theorem valid_one {z0 z1 : Nat → Int} (h : (z1 0 == 0) = false) (p : 0 ≤ z1 0) : Valid z0 z1 1 := by
  have h' : z1 0 ≠ 0 := by simpa using h
  refine ⟨fun i hi => ?_, fun i hi => by omega⟩
  obtain rfl : i = 0 := by omega
  omega

theorem valid_step {z0 z1 : Nat → Int} {k : Nat} (hV : Valid z0 z1 (k + 1)) (h : (z1 (k + 1) == 0) = false) (p : 0 ≤ z1 (k + 1)) (hlt : z0 k < z0 (k + 1)) : Valid z0 z1 (k + 2) := by
  have h' : z1 (k + 1) ≠ 0 := by simpa using h
  refine ⟨fun i hi => ?_, fun i hi => ?_⟩
  · by_cases e : i = k + 1
    · subst e; omega
    · exact hV.1 i (by omega)
  · by_cases e : i = k
    · subst e; exact hlt
    · exact hV.2 i (by omega)

set_option maxHeartbeats 1600000 in
theorem valid_any (a0 a1 : Option Addr) (n0 n1 c0 c1 b0 b1 o0 o1 : Nat) (z0 z1 : Nat → Int) (w : World) (h0 : Hid (Row w a0 n0 b0 o0 z0)) (h1 : Hid (Row w a1 n1 b1 o1 z1)) (hn : n0 ≤ 32768) :
    Calls Try.prog 6 #[.slice a0 n0 c0, .slice a1 n1 c1] w fun e w' => ∃ r : Bool, e = .returned (.bool r) ∧ (∃ q, w' = w.drewN q) ∧ (r = true → n0 = n1 ∧ Valid z0 z1 n0) := by
  by_cases hne : n0 = n1
  · subst hne
    go_enter Try.func6, Try.ntmps6
    go_wp2
    go_loopw [5] (fun t5 wr => ∃ k : Nat, k ≤ n0 ∧ Hid (Valid z0 z1 k) ∧ t5 = .int .i64 (k : Int) ∧ ∃ q, wr = w.drewN q) (fun t5 _ => n0 - (intOf t5).toNat)
    case atStart => exact ⟨0, by omega, ⟨fun i hi => by omega, fun i hi => by omega⟩, rfl, 0, rfl⟩
    case round =>
      obtain ⟨k, hk, hV, rfl, q, rfl⟩ := hrel
      by_cases hlt : k < n0
      · rcases k with _ | k
        · have i1 := h1.out.index c1 0 0 rfl hlt
          have e1 : w.cell? ⟨b1, o1, none⟩ = some (.int .u64 (z1 0)) := h1.out.2.1 0 hlt
          have p1 := h1.out.2.2 0 hlt
          by_cases hz : (z1 0 == 0) = true
          · go_wp2
            go_ret
            exact ⟨false, rfl, ⟨q, rfl⟩, fun h => by cases h⟩
          · have hz' : (z1 0 == 0) = false := by simpa using hz
            clear hz
            go_wp2
            go_quiet (fail)
            go_wp2
            go_roundw
            case rel => exact ⟨1, by omega, valid_one hz' p1, rfl, q + nq, by simp⟩
            case measure => simp [intOf]; omega
        · have i1 := h1.out.index c1 (k + 1) ((k : Int) + 1) (by omega) hlt
          have e1 := h1.out.2.1 (k + 1) hlt
          have p1 := h1.out.2.2 (k + 1) hlt
          have i0 := h0.out.index c0 k (k : Int) rfl (by omega)
          have e0 := h0.out.2.1 k (by omega)
          have i0' := h0.out.index c0 (k + 1) ((k : Int) + 1) (by omega) (by omega)
          have e0' := h0.out.2.1 (k + 1) (by omega)
          by_cases hz : (z1 (k + 1) == 0) = true
          · go_wp2
            go_ret
            exact ⟨false, rfl, ⟨q, rfl⟩, fun h => by cases h⟩
          · have hz' : (z1 (k + 1) == 0) = false := by simpa using hz
            clear hz
            by_cases hle : z0 (k + 1) ≤ z0 k
            · go_wp2
              go_quiet (fail)
              go_wp2
              go_ret
              exact ⟨false, rfl, ⟨q + nq, by simp⟩, fun h => by cases h⟩
            · go_wp2
              go_quiet (fail)
              go_wp2
              go_roundw
              case rel => exact ⟨k + 2, by omega, valid_step hV.out hz' p1 (by omega), by go_num, q + nq, by simp⟩
              case measure => simp [intOf]; omega
      · go_wp2
        go_ret
        exact ⟨true, rfl, ⟨q, rfl⟩, fun _ => ⟨trivial, by rw [show n0 = k by omega]; exact hV.out⟩⟩
  · have hne' : ((n0 : Int) == (n1 : Int)) = false := by simp; omega
    go_enter Try.func6, Try.ntmps6
    go_wp2
    go_ret
    exact ⟨false, rfl, ⟨0, rfl⟩, fun h => by cases h⟩

set_option maxHeartbeats 1600000 in
theorem bytes5_any (a0 a1 a2 a3 : Option Addr) (n0 n1 n2 n3 c0 c1 c2 c3 : Nat) (w : World) (h0 : (n0 : Int) ≤ 9223372036854775807) (h1 : (n1 : Int) ≤ 9223372036854775807) (h2 : (n2 : Int) ≤ 9223372036854775807) (h3 : (n3 : Int) ≤ 9223372036854775807) :
    Calls Try.prog 5 #[.slice a0 n0 c0, .slice a1 n1 c1, .slice a2 n2 c2, .slice a3 n3 c3] w fun e w' => ∃ r : Bool, e = .returned (.bool r) ∧ w' = w := by
  go_enter Try.func5, Try.ntmps5
  go_wp2
  all_goals
    go_ret
    exact ⟨_, rfl, rfl⟩

set_option maxHeartbeats 1600000 in
theorem bytes10_any (a0 a1 a2 a3 : Option Addr) (n0 n1 n2 n3 c0 c1 c2 c3 : Nat) (w : World) (h0 : (n0 : Int) ≤ 9223372036854775807) (h1 : (n1 : Int) ≤ 9223372036854775807) (h2 : (n2 : Int) ≤ 9223372036854775807) (h3 : (n3 : Int) ≤ 9223372036854775807) :
    Calls Try.prog 10 #[.slice a0 n0 c0, .slice a1 n1 c1, .slice a2 n2 c2, .slice a3 n3 c3] w fun e w' => ∃ r : Bool, e = .returned (.bool r) ∧ w' = w := by
  go_enter Try.func10, Try.ntmps10
  go_wp2
  all_goals
    go_ret
    exact ⟨_, rfl, rfl⟩
end Go.Proofs.Qxb6630560a
