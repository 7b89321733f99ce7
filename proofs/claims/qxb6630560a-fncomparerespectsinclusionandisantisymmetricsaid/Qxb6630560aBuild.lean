/-
  SEAT b6630560a. THE WALK OF buildVersion (function 7): the pairs lie in a new row of Dots.
-/
import Derived.Test.Qxb6630560aValid
namespace Go.Proofs.Qxb6630560a
open Go Go.RowKit

theorem make_dots (n : Nat) (hn : n ≤ 32768) : ∃ C0 : Array Value, C0.size = n * 2 ∧ ∀ wx : World, (Instr.makeSlice 25 (.int .i64 (n : Int)) (.int .i64 (n : Int))).run Try.prog wx = .ok (.slice (some ⟨wx.heap.size, 0, none⟩) n n) (wx.alloc (.cells C0 33)) := by
  obtain ⟨i, hi, hz, hs, hb⟩ := info_parts (P := Try.prog) (e := 33) (z := .agg #[.int .u64 0, .int .u64 0]) (size := 2) (bytes := 16) (by kernel_rfl)
  refine ⟨madeCells (Value.agg #[.int .u64 0, .int .u64 0]).cells (n * 2), by rw [size_madeCells], fun wx => ?_⟩
  have := run_make (P := Try.prog) wx 25 33 i _ Try.underlying25 hi hz .i64 .i64 (n : Int) (n : Int) (by omega) (Int.le_refl _) (by rw [hb]; omega) (by omega)
  simp only [Int.toNat_natCast, hs] at this
  exact this

/-- The first 2k cells of the row are the first k pairs. -/
def Dots (C : Array Value) (k : Nat) (z0 z1 : Nat → Int) : Prop := ∀ i, i < k → C[i * 2]? = some (.int .u64 (z0 i)) ∧ C[i * 2 + 1]? = some (.int .u64 (z1 i))

set_option maxHeartbeats 400000 in
theorem new_any (a : Option Addr) (n c : Nat) (w : World) :
    Calls Try.prog 12 #[.slice a n c] w fun e w' => e = .returned (.agg #[.slice a n c]) ∧ w' = w.alloc (.cells #[.slice a n c] 27) := by
  go_enter Try.func12, Try.ntmps12
  go_wp2
  exact bodyPost_ret (v := .agg #[.slice a n c]) (by simp [results, Try.results12, go_sem]) rfl ⟨rfl, rfl⟩

theorem put_row (w : World) (o1 : Obj) (C : Array Value) (q i : Nat) (v : Value) :
    (((w.alloc o1).alloc (.cells C 33)).drewN q).setCell ⟨w.heap.size + 1, i, none⟩ v = ((w.alloc o1).alloc (.cells (C.setIfInBounds i v) 33)).drewN q := by
  have h := World.setCell_alloc_at (w := w.alloc o1) C 33 (w.heap.size + 1) i v (by simp)
  rw [← h]
  rfl

theorem Dots.step {C : Array Value} {k n : Nat} {z0 z1 : Nat → Int} (h : Dots C k z0 z1) (hC : C.size = n * 2) (hk : k < n) :
    Dots ((C.setIfInBounds (k * 2) (.int .u64 (z0 k))).setIfInBounds (k * 2 + 1) (.int .u64 (z1 k))) (k + 1) z0 z1 := by
  intro i hi
  by_cases e : i = k
  · subst e
    constructor
    · rw [Array.getElem?_setIfInBounds_ne (by omega), Array.getElem?_setIfInBounds_self_of_lt (by omega)]
    · rw [Array.getElem?_setIfInBounds_self_of_lt (by simp; omega)]
  · have := h i (by omega)
    constructor
    · rw [Array.getElem?_setIfInBounds_ne (by omega), Array.getElem?_setIfInBounds_ne (by omega)]; exact this.1
    · rw [Array.getElem?_setIfInBounds_ne (by omega), Array.getElem?_setIfInBounds_ne (by omega)]; exact this.2

theorem row_block (w : World) (o1 o2 : Obj) (C : Array Value) (q : Nat) (v : Value) :
    ((((((w.alloc o1).alloc (.cells C 33)).drewN q).setCell ⟨w.heap.size, 0, none⟩ v).alloc o2).heap)[w.heap.size + 1]? = some (.cells C 33 (0, 0)) := by
  rw [Below.heap_alloc _ _ _ (by simp [World.setCell]), Below.heap_setCell _ _ _ _ (by simp)]
  show ((w.heap.push o1).push (.cells C 33))[w.heap.size + 1]? = _
  rw [Array.getElem?_push, if_pos (by simp)]

set_option maxHeartbeats 1600000 in
theorem build_any (a0 a1 : Option Addr) (n c0 c1 b0 b1 o0 o1 : Nat) (z0 z1 : Nat → Int) (w : World) (h0 : Hid (Row w a0 n b0 o0 z0)) (h1 : Hid (Row w a1 n b1 o1 z1)) (hn : n ≤ 32768) :
    Calls Try.prog 7 #[.slice a0 n c0, .slice a1 n c1] w fun e w' => ∃ (g : Nat) (C : Array Value), e = .returned (.agg #[.slice (some ⟨g, 0, none⟩) n n]) ∧ Below w.heap.size w w' ∧ w.heap.size ≤ g ∧ w'.heap[g]? = some (.cells C 33 (0, 0)) ∧ Dots C n z0 z1 := by
  obtain ⟨C0, hC0, hmk⟩ := make_dots n hn
  go_enter Try.func7, Try.ntmps7
  go_wp2
  clear hmk
  go_loopw [6] (fun t6 wr => ∃ (k q : Nat) (C : Array Value), k ≤ n ∧ Hid (C.size = n * 2 ∧ Dots C k z0 z1) ∧ t6 = .int .i64 (k : Int) ∧ wr = ((w.alloc (.cells #[.slice none 0 0] 27)).alloc (.cells C 33)).drewN q) (fun t6 _ => n - (intOf t6).toNat)
  case atStart => exact ⟨0, 0, C0, by omega, ⟨hC0, fun i hi => by omega⟩, rfl, rfl⟩
  case round =>
    obtain ⟨k, q, C, hk, hD, rfl, rfl⟩ := hrel
    by_cases hlt : k < n
    · have i0 := h0.out.index c0 k (k : Int) rfl hlt
      have i1 := h1.out.index c1 k (k : Int) rfl hlt
      have e0 := h0.out.2.1 k hlt
      have e1 := h1.out.2.1 k hlt
      have l0 := block_lt_of_cell e0
      have l1 := block_lt_of_cell e1
      have hc0 : C[k * 2]? = some (C[k * 2]'(by have := hD.out.1; omega)) := by simp
      have hc1 : C[k * 2 + 1]? = some (C[k * 2 + 1]'(by have := hD.out.1; omega)) := by simp
      go_wp2
      go_region
      go_wp2
      go_roundw
      case rel => exact ⟨k + 1, q + 1, _, by omega, ⟨by simp [hD.out.1], hD.out.2.step hD.out.1 hlt⟩, by go_num, by rw [put_row, put_row]⟩
      case measure => simp [intOf]; omega
    · go_wp2_with fail
      refine (new_any _ _ _ _).mono ?_
      rintro e w2 ⟨rfl, rfl⟩
      go_wp2_with fail
      obtain rfl : k = n := by omega
      refine bodyPost_ret (v := .agg #[.slice (some ⟨w.heap.size + 1, 0, none⟩) k k]) (by simp [results, Try.results7, go_sem]) rfl ⟨w.heap.size + 1, C, rfl, ?_, by omega, row_block w _ _ C q _, hD.out.2⟩
      exact ((below_drewN (((Below.refl _ w).alloc (Nat.le_refl _) _).alloc (by simp) _) q).setCell (Nat.le_refl _) _).alloc (by simp [World.setCell]; omega) _
end Go.Proofs.Qxb6630560a
