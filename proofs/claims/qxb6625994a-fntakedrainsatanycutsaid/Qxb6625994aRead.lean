/-
  SEAT b6625994a. HOW A ROW OF ONE-CELL ELEMENTS IS READ (strings, bytes, slices of bytes); THE WALKS OF zzCloneStrings (function 6), zzCloneBytes (function 19), zzSameBytes (function 13).
-/
import Derived.Test.Qxb6625994aRows
import Derived.WalkKit
import Derived.WalkSpells
import Derived.WalkLawsBesides
import Derived.Below
import Derived.Outline
import Derived.BigQuiet
import Derived.Deep.QuietTactic
import Derived.Deep.OwnRows
namespace Go.Proofs.Qxb6625994a
open Go Go.RowKit

/-- A slice of len elements of one cell each at a: empty, or the cells of block b from off on; its elements are v. -/
def Row (w : World) (a : Option Addr) (len b off : Nat) (v : Nat → Value) : Prop :=
  (len = 0 ∨ a = some ⟨b, off, none⟩) ∧ ∀ i, i < len → w.cell? ⟨b, off + i, none⟩ = some (v i)

theorem Row.index22 {w : World} {a : Option Addr} {len b off : Nat} {v : Nat → Value} (h : Row w a len b off v) (c k : Nat) (x : Int) (hx : x = (k : Int)) (hk : k < len) (wx : World) :
    (Instr.indexAt 22 (.slice a len c) (.int .i64 x)).run Try.prog wx = .ok (.pointer (some ⟨b, off + k, none⟩)) wx := by
  subst hx
  rcases h.1 with h0 | rfl
  · omega
  · have es : ∀ wx, (sizeOf (Try.prog.elem 22)).run Try.prog wx = .ok 1 wx := fun _ => by kernel_rfl
    rw [run_indexAt_slice wx 22 ⟨b, off, none⟩ len c .i64 (k : Int) (by kernel_rfl), if_pos (by omega), es]
    simp [Result.andThen, Addr.add]

theorem Row.index25 {w : World} {a : Option Addr} {len b off : Nat} {v : Nat → Value} (h : Row w a len b off v) (c k : Nat) (x : Int) (hx : x = (k : Int)) (hk : k < len) (wx : World) :
    (Instr.indexAt 25 (.slice a len c) (.int .i64 x)).run Try.prog wx = .ok (.pointer (some ⟨b, off + k, none⟩)) wx := by
  subst hx
  rcases h.1 with h0 | rfl
  · omega
  · have es : ∀ wx, (sizeOf (Try.prog.elem 25)).run Try.prog wx = .ok 1 wx := fun _ => by kernel_rfl
    rw [run_indexAt_slice wx 25 ⟨b, off, none⟩ len c .i64 (k : Int) (by kernel_rfl), if_pos (by omega), es]
    simp [Result.andThen, Addr.add]

/-- The index law of a [][]byte. -/
theorem index23 {a : Option Addr} {len b off : Nat} (h : len = 0 ∨ a = some ⟨b, off, none⟩) (c k : Nat) (x : Int) (hx : x = (k : Int)) (hk : k < len) (wx : World) :
    (Instr.indexAt 23 (.slice a len c) (.int .i64 x)).run Try.prog wx = .ok (.pointer (some ⟨b, off + k, none⟩)) wx := by
  subst hx
  rcases h with h0 | rfl
  · omega
  · have es : ∀ wx, (sizeOf (Try.prog.elem 23)).run Try.prog wx = .ok 1 wx := fun _ => by kernel_rfl
    rw [run_indexAt_slice wx 23 ⟨b, off, none⟩ len c .i64 (k : Int) (by kernel_rfl), if_pos (by omega), es]
    simp [Result.andThen, Addr.add]

theorem Row.kept {w w' : World} {B : Nat} {a : Option Addr} {len b off : Nat} {v : Nat → Value} (h : Row w a len b off v) (hB : w.heap.size ≤ B) (hb : Below B w w') : Row w' a len b off v := by
  refine ⟨h.1, fun i hi => ?_⟩
  have := h.2 i hi
  rw [hb.cell (Nat.lt_of_lt_of_le (block_lt_of_cell this) hB)]
  exact this

theorem Row.drewN {w : World} {a : Option Addr} {len b off : Nat} {v : Nat → Value} (h : Row w a len b off v) (q : Nat) : Row (w.drewN q) a len b off v := ⟨h.1, fun i hi => by simpa using h.2 i hi⟩

/-- The first k cells of the new row are the first k elements. -/
def Got (C : Array Value) (k n : Nat) (v : Nat → Value) : Prop := C.size = n ∧ ∀ i, i < k → C[i]? = some (v i)

theorem Got.step {C : Array Value} {k n : Nat} {v : Nat → Value} (h : Got C k n v) (hk : k < n) : Got (C.setIfInBounds k (v k)) (k + 1) n v := by
  refine ⟨by simp [h.1], fun i hi => ?_⟩
  by_cases e : i = k
  · subst e
    rw [Array.getElem?_setIfInBounds_self_of_lt (by rw [h.1]; exact hk)]
  · rw [Array.getElem?_setIfInBounds_ne (by omega)]
    exact h.2 i (by omega)

theorem row_new (w : World) (C : Array Value) (e : TypeId) (n : Nat) (v : Nat → Value) (h : Got C n n v) : Row (w.alloc (.cells C e)) (some ⟨w.heap.size, 0, none⟩) n w.heap.size 0 v := by
  refine ⟨Or.inr rfl, fun i hi => ?_⟩
  have : (w.alloc (.cells C e)).heap[w.heap.size]? = some (.cells C e (0, 0)) := by
    show (w.heap.push _)[w.heap.size]? = _
    simp
  simp only [World.cell?, this, Nat.zero_add]
  simp [h.2 i hi]

theorem put_new (w : World) (C : Array Value) (e : TypeId) (i : Nat) (v : Value) :
    (w.alloc (.cells C e)).setCell ⟨w.heap.size, i, none⟩ v = w.alloc (.cells (C.setIfInBounds i v) e) := World.setCell_alloc_at (w := w) C e w.heap.size i v rfl

/-- What a copy is: a slice of the same length, its row in the new world; the row lies in a new block. -/
def Copied (w : World) (n : Nat) (v : Nat → Value) (e : Ending) (w' : World) : Prop :=
  ∃ (a' : Option Addr) (c' b' : Nat), e = .returned (.slice a' n c') ∧ Row w' a' n b' 0 v ∧ (n = 0 ∨ w.heap.size ≤ b') ∧ (a' = none → n = 0 ∧ c' = 0)

theorem clone6_nil (w : World) (v : Nat → Value) : Calls Try.prog 6 #[.slice none 0 0] w fun e w' => Below w.heap.size w w' ∧ Copied w 0 v e w' := by
  have hq := fun wx => Lib.run_eql_slice_nil (P := Try.prog) wx 22 9 none 0 0 0 0 Try.underlying22
  go_enter Try.func6, Try.ntmps6
  go_wp2
  go_ret
  exact ⟨Below.refl _ _, none, 0, 0, rfl, ⟨Or.inl rfl, fun i hi => by omega⟩, Or.inl rfl, fun _ => ⟨rfl, rfl⟩⟩

set_option maxHeartbeats 800000 in
theorem clone6_some (a : Addr) (n c b off : Nat) (s : Nat → ByteArray) (w : World) (h : Hid (Row w (some a) n b off fun i => .string (s i))) (hn : n ≤ 65536) :
    Calls Try.prog 6 #[.slice (some a) n c] w fun e w' => Below w.heap.size w w' ∧ Copied w n (fun i => .string (s i)) e w' := by
  have hmk := run_make_row' (P := Try.prog) 22 9 (.string ⟨#[]⟩) 16 Try.underlying22 (by kernel_rfl) rfl .i64 .i64 n (by omega) (by omega)
  have hq := fun wx => Lib.run_eql_slice_nil (P := Try.prog) wx 22 9 (some a) n c 0 0 Try.underlying22
  go_enter Try.func6, Try.ntmps6
  go_wp2
  clear hmk hq
  go_loopw [4] (fun t4 wr => ∃ (k : Nat) (C : Array Value), k ≤ n ∧ Hid (Got C k n fun i => .string (s i)) ∧ t4 = .int .i64 (k : Int) ∧ wr = w.alloc (.cells C 9)) (fun t4 _ => n - (intOf t4).toNat)
  case atStart => exact ⟨0, _, by omega, ⟨by rw [size_madeCells], fun i hi => by omega⟩, rfl, rfl⟩
  case round =>
    obtain ⟨k, C, hk, hG, rfl, rfl⟩ := hrel
    by_cases hlt : k < n
    · have i1 := h.out.index22 c k (k : Int) rfl hlt
      have e1 := h.out.2 k hlt
      have l1 := block_lt_of_cell e1
      have hc : C[k]? = some (C[k]'(by have := hG.out.1; omega)) := by simp
      go_wp2
      go_roundw
      case rel => exact ⟨k + 1, _, by omega, hG.out.step hlt, by go_num, rfl⟩
      case measure => simp [intOf]; omega
    · obtain rfl : k = n := by omega
      go_wp2
      go_ret
      exact ⟨(Below.refl _ w).alloc (Nat.le_refl _) _, _, _, _, rfl, row_new w C 9 k _ hG.out, Or.inr (Nat.le_refl _), fun h => by cases h⟩

theorem clone6_any (a : Option Addr) (n c b off : Nat) (s : Nat → ByteArray) (w : World) (h : Row w a n b off fun i => .string (s i)) (hn : n ≤ 65536) (hnil : a = none → n = 0 ∧ c = 0) :
    Calls Try.prog 6 #[.slice a n c] w fun e w' => Below w.heap.size w w' ∧ Copied w n (fun i => .string (s i)) e w' := by
  cases a with
  | none =>
    obtain ⟨rfl, rfl⟩ := hnil rfl
    exact clone6_nil w _
  | some a => exact clone6_some a n c b off s w h hn

theorem clone19_nil (w : World) (v : Nat → Value) : Calls Try.prog 19 #[.slice none 0 0] w fun e w' => Below w.heap.size w w' ∧ Copied w 0 v e w' := by
  have hq := fun wx => Lib.run_eql_slice_nil (P := Try.prog) wx 25 5 none 0 0 0 0 Try.underlying25
  go_enter Try.func19, Try.ntmps19
  go_wp2
  go_ret
  exact ⟨Below.refl _ _, none, 0, 0, rfl, ⟨Or.inl rfl, fun i hi => by omega⟩, Or.inl rfl, fun _ => ⟨rfl, rfl⟩⟩

set_option maxHeartbeats 800000 in
theorem clone19_some (a : Addr) (n c b off : Nat) (z : Nat → Int) (w : World) (h : Hid (Row w (some a) n b off fun i => .int .u8 (z i))) (hn : n ≤ 1048576) :
    Calls Try.prog 19 #[.slice (some a) n c] w fun e w' => Below w.heap.size w w' ∧ Copied w n (fun i => .int .u8 (z i)) e w' := by
  have hmk := run_make_row' (P := Try.prog) 25 5 (.int .u8 0) 1 Try.underlying25 (by kernel_rfl) rfl .i64 .i64 n (by omega) (by omega)
  have hq := fun wx => Lib.run_eql_slice_nil (P := Try.prog) wx 25 5 (some a) n c 0 0 Try.underlying25
  go_enter Try.func19, Try.ntmps19
  go_wp2
  clear hmk hq
  go_loopw [4] (fun t4 wr => ∃ (k : Nat) (C : Array Value), k ≤ n ∧ Hid (Got C k n fun i => .int .u8 (z i)) ∧ t4 = .int .i64 (k : Int) ∧ wr = w.alloc (.cells C 5)) (fun t4 _ => n - (intOf t4).toNat)
  case atStart => exact ⟨0, _, by omega, ⟨by rw [size_madeCells], fun i hi => by omega⟩, rfl, rfl⟩
  case round =>
    obtain ⟨k, C, hk, hG, rfl, rfl⟩ := hrel
    by_cases hlt : k < n
    · have i1 := h.out.index25 c k (k : Int) rfl hlt
      have e1 := h.out.2 k hlt
      have l1 := block_lt_of_cell e1
      have hc : C[k]? = some (C[k]'(by have := hG.out.1; omega)) := by simp
      go_wp2
      go_roundw
      case rel => exact ⟨k + 1, _, by omega, hG.out.step hlt, by go_num, rfl⟩
      case measure => simp [intOf]; omega
    · obtain rfl : k = n := by omega
      go_wp2
      go_ret
      exact ⟨(Below.refl _ w).alloc (Nat.le_refl _) _, _, _, _, rfl, row_new w C 5 k _ hG.out, Or.inr (Nat.le_refl _), fun h => by cases h⟩

theorem clone19_any (a : Option Addr) (n c b off : Nat) (z : Nat → Int) (w : World) (h : Row w a n b off fun i => .int .u8 (z i)) (hn : n ≤ 1048576) (hnil : a = none → n = 0 ∧ c = 0) :
    Calls Try.prog 19 #[.slice a n c] w fun e w' => Below w.heap.size w w' ∧ Copied w n (fun i => .int .u8 (z i)) e w' := by
  cases a with
  | none =>
    obtain ⟨rfl, rfl⟩ := hnil rfl
    exact clone19_nil w _
  | some a => exact clone19_some a n c b off z w h hn

set_option maxHeartbeats 800000 in
theorem same_any (a0 a1 : Option Addr) (n c0 c1 b0 b1 o0 o1 : Nat) (z : Nat → Int) (w : World) (h0 : Hid (Row w a0 n b0 o0 fun i => .int .u8 (z i))) (h1 : Hid (Row w a1 n b1 o1 fun i => .int .u8 (z i))) (hn : n ≤ 1048576) :
    Calls Try.prog 13 #[.slice a0 n c0, .slice a1 n c1] w fun e w' => e = .returned (.bool true) ∧ ∃ q, w' = w.drewN q := by
  go_enter Try.func13, Try.ntmps13
  go_wp2
  go_loopw [5] (fun t5 wr => ∃ k : Nat, k ≤ n ∧ t5 = .int .i64 (k : Int) ∧ ∃ q, wr = w.drewN q) (fun t5 _ => n - (intOf t5).toNat)
  case atStart => exact ⟨0, by omega, rfl, 0, rfl⟩
  case round =>
    obtain ⟨k, hk, rfl, q, rfl⟩ := hrel
    by_cases hlt : k < n
    · have i0 := h0.out.index25 c0 k (k : Int) rfl hlt
      have e0 := h0.out.2 k hlt
      have i1 := h1.out.index25 c1 k (k : Int) rfl hlt
      have e1 := h1.out.2 k hlt
      go_wp2
      go_quiet (fail)
      go_wp2
      go_roundw
      case rel => exact ⟨k + 1, by omega, by go_num, q + nq, by simp⟩
      case measure => simp [intOf]; omega
    · go_wp2
      go_ret
      exact ⟨rfl, q, rfl⟩
end Go.Proofs.Qxb6625994a
