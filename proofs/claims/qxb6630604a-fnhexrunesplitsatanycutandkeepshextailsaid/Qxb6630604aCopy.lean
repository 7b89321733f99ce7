/-
  SEAT b6630604a. THE COPY THAT BOTH LAWS MAKE FIRST.
-/
import Derived.Test.Qxb6630604aRune
import Derived.Laws.CopyRow
import Derived.Laws.CopyOwn
import Derived.Laws.IdiomCopy
import Derived.Deep.OwnRows
namespace Go.Proofs.Qxb6630604a
open Go Go.RowKit

/-- A slice that is not nil, copied into a row of the call's own. -/
theorem copy_made (a : Addr) (n c b off : Nat) (z : Nat → Int) (w : World) (h : Row w (some a) n b off z) :
    ∃ W', (Builtin.copy_ #[22, 22] 3 #[.slice (some ⟨w.heap.size, 0, none⟩) n n, .slice (some a) n c]).run Try.prog (w.alloc (.cells (madeCells #[.int .u8 0] n) 5)) = .ok (goInt n) W' ∧
      Below w.heap.size w W' ∧ Row W' (some ⟨w.heap.size, 0, none⟩) n w.heap.size 0 z := by
  have bel : Below w.heap.size w (w.alloc (.cells (madeCells #[.int .u8 0] n) 5)) := (Below.refl _ w).alloc (Nat.le_refl _) _
  rcases h.1 with h0 | ha
  · subst h0
    refine ⟨_, run_copy_none _ 22 22 3 5 _ _ 0 0 0 c Try.underlying22 (by kernel_rfl) rfl, bel, Or.inl rfl, fun i hi => by omega, fun i hi => by omega⟩
  · obtain rfl := Option.some.inj ha
    have hg : (w.alloc (.cells (madeCells #[.int .u8 0] n) 5)).heap[w.heap.size]? = some (.cells (madeCells #[.int .u8 0] n) 5 (0, 0)) := by
      show (w.heap.push _)[w.heap.size]? = _
      simp
    have hcs : ((List.range n).map fun i => Value.int .u8 (z i)).length = n := by simp
    have hr := run_copy_row (P := Try.prog) (w.alloc (.cells (madeCells #[.int .u8 0] n) 5)) 22 22 3 5 w.heap.size 0 n n ⟨b, off, none⟩ n c (madeCells #[.int .u8 0] n) 5 ((List.range n).map fun i => Value.int .u8 (z i))
      Try.underlying22 (by kernel_rfl) hg (by rw [hcs]; exact (Nat.min_self n).symm) (fun j v hj => by
        obtain ⟨hjl, hv⟩ := List.getElem?_eq_some_iff.1 hj
        have hjn : j < n := by simpa using hjl
        have hc := h.2.1 j hjn
        rw [show (⟨b, off, none⟩ : Addr).add j = ⟨b, off + j, none⟩ by simp [Addr.add], bel.cell (block_lt_of_cell hc), hc]
        simp at hv
        rw [hv]) (by rw [hcs, size_madeCells]; omega) (fun v hv => by
        obtain ⟨i, _, rfl⟩ := List.mem_map.1 hv
        rfl)
    rw [hcs] at hr
    refine ⟨_, hr, below_setRow bel (Nat.le_refl _) _, Or.inr rfl, fun i hi => ?_, h.2.2⟩
    rw [cell_setRow_same _ _ _ _ _ _ _ hg]
    simp
    rw [List.getElem?_append_left (by simp; omega)]
    simp [hi]

theorem Row.kept {w w' : World} {a : Option Addr} {len b off : Nat} {z : Nat → Int} (h : Row w a len b off z) (hb : Below w.heap.size w w') : Row w' a len b off z := by
  refine ⟨h.1, fun i hi => ?_, h.2.2⟩
  have := h.2.1 i hi
  rw [hb.cell (block_lt_of_cell this)]
  exact this
end Go.Proofs.Qxb6630604a
