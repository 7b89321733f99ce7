/-
  SEAT b6625994a. A SLICE OF BYTE SLICES, AND ITS COPY: zzCloneDocs (function 7); THE TWO BOUNDS ON LENGTHS (functions 5, 17).
-/
import Derived.Test.Qxb6625994aRead
namespace Go.Proofs.Qxb6625994a
open Go Go.RowKit

theorem heap_put {w : World} {g i : Nat} {C : Array Value} {e : TypeId} (v : Value) (h : w.heap[g]? = some (.cells C e (0, 0))) : (w.setCell ⟨g, i, none⟩ v).heap[g]? = some (.cells (C.setIfInBounds i v) e (0, 0)) := by
  obtain ⟨hlt, hk⟩ := Array.getElem?_eq_some_iff.1 h
  show (w.heap.modify g _)[g]? = _
  rw [Array.getElem?_eq_getElem (by rw [Array.size_modify]; exact hlt), Array.getElem_modify_self, hk]
  rfl

theorem cell_at {w : World} {g : Nat} {C : Array Value} {e : TypeId} (h : w.heap[g]? = some (.cells C e (0, 0))) (i : Nat) : w.cell? ⟨g, i, none⟩ = C[i]? := by
  simp only [World.cell?, h]
  simp

theorem frozen_at {w : World} {g : Nat} {C : Array Value} {e : TypeId} (h : w.heap[g]? = some (.cells C e (0, 0))) (i : Nat) : w.frozen? ⟨g, i, none⟩ = false := by
  simp [World.frozen?, h]

theorem heap_lt {w : World} {g : Nat} {o : Obj} (h : w.heap[g]? = some o) : g < w.heap.size := (Array.getElem?_eq_some_iff.1 h).1

/-- A document: a slice of L bytes, the numbers z. -/
def Doc (w : World) (v : Value) (L : Nat) (z : Nat → Int) : Prop :=
  ∃ (da : Option Addr) (dc db off : Nat), v = .slice da L dc ∧ Row w da L db off (fun j => .int .u8 (z j)) ∧ (da = none → L = 0 ∧ dc = 0)

/-- A slice of documents. -/
def Docs (w : World) (a : Option Addr) (n b off : Nat) (L : Nat → Nat) (z : Nat → Nat → Int) : Prop :=
  (n = 0 ∨ a = some ⟨b, off, none⟩) ∧ ∀ i, i < n → ∃ v, w.cell? ⟨b, off + i, none⟩ = some v ∧ Doc w v (L i) (z i)

theorem Doc.kept {w w' : World} {B : Nat} {v : Value} {L : Nat} {z : Nat → Int} (h : Doc w v L z) (hB : w.heap.size ≤ B) (hb : Below B w w') : Doc w' v L z := by
  obtain ⟨da, dc, db, off, e, hr, hn⟩ := h
  exact ⟨da, dc, db, off, e, hr.kept hB hb, hn⟩

theorem Docs.kept {w w' : World} {B : Nat} {a : Option Addr} {n b off : Nat} {L : Nat → Nat} {z : Nat → Nat → Int} (h : Docs w a n b off L z) (hB : w.heap.size ≤ B) (hb : Below B w w') : Docs w' a n b off L z := by
  refine ⟨h.1, fun i hi => ?_⟩
  obtain ⟨v, hv, hd⟩ := h.2 i hi
  exact ⟨v, by rw [hb.cell (Nat.lt_of_lt_of_le (block_lt_of_cell hv) hB)]; exact hv, hd.kept hB hb⟩

/-- The copy as far as it has come: the new row is block g; its first k cells are documents, none of them in block g. -/
def Fresh (g : Nat) (w : World) (C : Array Value) (k n : Nat) (L : Nat → Nat) (z : Nat → Nat → Int) : Prop :=
  w.heap[g]? = some (.cells C 25 (0, 0)) ∧ C.size = n ∧ ∀ i, i < k → ∃ (da : Option Addr) (dc db : Nat), C[i]? = some (.slice da (L i) dc) ∧ Row w da (L i) db 0 (fun j => .int .u8 (z i j)) ∧ (da = none → L i = 0 ∧ dc = 0) ∧ (L i = 0 ∨ g < db)

theorem Fresh.step {g : Nat} {w w' : World} {C : Array Value} {k n : Nat} {L : Nat → Nat} {z : Nat → Nat → Int} (h : Fresh g w C k n L z) (hk : k < n) (hb : Below w.heap.size w w') {da : Option Addr} {dc db : Nat} (hr : Row w' da (L k) db 0 (fun j => .int .u8 (z k j))) (hn : da = none → L k = 0 ∧ dc = 0) (hf : L k = 0 ∨ w.heap.size ≤ db) :
    Fresh g (w'.setCell ⟨g, k, none⟩ (.slice da (L k) dc)) (C.setIfInBounds k (.slice da (L k) dc)) (k + 1) n L z := by
  have hg := heap_lt h.1
  have hg' : w'.heap[g]? = some (.cells C 25 (0, 0)) := by rw [hb.block g hg]; exact h.1
  have key : ∀ (x : Option Addr) (m bb : Nat) (v : Nat → Value), Row w' x m bb 0 v → (m = 0 ∨ g < bb) → Row (w'.setCell ⟨g, k, none⟩ (.slice da (L k) dc)) x m bb 0 v := fun x m bb v hrr hgg => by
    refine ⟨hrr.1, fun i hi => ?_⟩
    rw [World.cell?_setCell_other _ _ _ _ (fun e => by injection e; omega)]
    exact hrr.2 i hi
  refine ⟨heap_put _ hg', by simp [h.2.1], fun i hi => ?_⟩
  by_cases e : i = k
  · subst e
    have hgd : L i = 0 ∨ g < db := by rcases hf with h0 | h1; exact Or.inl h0; exact Or.inr (by omega)
    exact ⟨da, dc, db, by rw [Array.getElem?_setIfInBounds_self_of_lt (by rw [h.2.1]; exact hk)], key _ _ _ _ hr hgd, hn, hgd⟩
  · obtain ⟨da', dc', db', h1, h2, h3, h4⟩ := h.2.2 i (by omega)
    exact ⟨da', dc', db', by rw [Array.getElem?_setIfInBounds_ne (by omega)]; exact h1, key _ _ _ _ (h2.kept (Nat.le_refl _) hb) h4, h3, h4⟩

theorem Fresh.docs {g : Nat} {w : World} {C : Array Value} {n : Nat} {L : Nat → Nat} {z : Nat → Nat → Int} (h : Fresh g w C n n L z) : Docs w (some ⟨g, 0, none⟩) n g 0 L z := by
  refine ⟨Or.inr rfl, fun i hi => ?_⟩
  obtain ⟨da, dc, db, h1, h2, h3, h4⟩ := h.2.2 i hi
  exact ⟨_, by rw [cell_at h.1, Nat.zero_add]; exact h1, da, dc, db, 0, rfl, h2, h3⟩

def CopiedDocs (n : Nat) (L : Nat → Nat) (z : Nat → Nat → Int) (e : Ending) (w' : World) : Prop :=
  ∃ (a' : Option Addr) (c' b' : Nat), e = .returned (.slice a' n c') ∧ Docs w' a' n b' 0 L z ∧ (a' = none → n = 0 ∧ c' = 0)

theorem clone7_nil (w : World) (L : Nat → Nat) (z : Nat → Nat → Int) : Calls Try.prog 7 #[.slice none 0 0] w fun e w' => Below w.heap.size w w' ∧ CopiedDocs 0 L z e w' := by
  have hq := fun wx => Lib.run_eql_slice_nil (P := Try.prog) wx 23 25 none 0 0 0 0 Try.underlying23
  go_enter Try.func7, Try.ntmps7
  go_wp2
  go_ret
  exact ⟨Below.refl _ _, none, 0, 0, rfl, ⟨Or.inl rfl, fun i hi => by omega⟩, fun _ => ⟨rfl, rfl⟩⟩

set_option maxHeartbeats 800000 in
theorem clone7_some (a : Addr) (n c b off : Nat) (L : Nat → Nat) (z : Nat → Nat → Int) (w : World) (h : Hid (Docs w (some a) n b off L z)) (hn : n ≤ 65536) (hL : Hid (∀ i, i < n → L i ≤ 1048576)) :
    Calls Try.prog 7 #[.slice (some a) n c] w fun e w' => Below w.heap.size w w' ∧ CopiedDocs n L z e w' := by
  have hmk := run_make_row' (P := Try.prog) 23 25 (.slice none 0 0) 24 Try.underlying23 (by kernel_rfl) rfl .i64 .i64 n (by omega) (by omega)
  have hq := fun wx => Lib.run_eql_slice_nil (P := Try.prog) wx 23 25 (some a) n c 0 0 Try.underlying23
  go_enter Try.func7, Try.ntmps7
  go_wp2
  clear hmk hq
  go_loopw [4] (fun t4 wr => ∃ (k : Nat) (C : Array Value), k ≤ n ∧ Hid (Fresh w.heap.size wr C k n L z) ∧ Hid (Below w.heap.size w wr) ∧ t4 = .int .i64 (k : Int)) (fun t4 _ => n - (intOf t4).toNat)
  case atStart => exact ⟨0, _, by omega, ⟨heap_alloc_new w _, by rw [size_madeCells], fun i hi => by omega⟩, (Below.refl _ w).alloc (Nat.le_refl _) _, rfl⟩
  case round =>
    obtain ⟨k, C, hk, hF, hB, rfl⟩ := hrel
    by_cases hlt : k < n
    · have i1 := index23 h.out.1 c k (k : Int) rfl hlt
      obtain ⟨v, hv, da, dc, db, doff, rfl, hr, hnil⟩ := h.out.2 k hlt
      have HR : Hid (Row wr da (L k) db doff fun j => .int .u8 (z k j)) := hr.kept (Nat.le_refl _) hB.out
      rw [← hB.out.cell (block_lt_of_cell hv)] at hv
      clear hr
      go_wp2_with fail
      refine (clone19_any da (L k) dc db doff (z k) _ HR.out (hL.out k hlt) hnil).mono ?_
      rintro e w2 ⟨b2, a', c', b', rfl, hr2, hf2, hn2⟩
      have HR2 : Hid (Row w2 a' (L k) b' 0 (fun j => .int .u8 (z k j)) ∧ (L k = 0 ∨ wr.heap.size ≤ b') ∧ (a' = none → L k = 0 ∧ c' = 0)) := ⟨hr2, hf2, hn2⟩
      have hg2 : w2.heap[w.heap.size]? = some (.cells C 25 (0, 0)) := by rw [b2.block _ (heap_lt hF.out.1)]; exact hF.out.1
      have hc2 : w2.cell? ⟨w.heap.size, k, none⟩ = some (C[k]'(by have := hF.out.2.1; omega)) := by rw [cell_at hg2]; simp
      have hz2 : w2.frozen? ⟨w.heap.size, k, none⟩ = false := frozen_at hg2 k
      clear hr2 hf2 hn2 hg2
      go_wp2
      go_roundw
      case rel => exact ⟨k + 1, _, by omega, hF.out.step hlt b2 HR2.out.1 HR2.out.2.2 HR2.out.2.1, (hB.out.trans (b2.mono hB.out.size)).setCell (Nat.le_refl _) _, by go_num⟩
      case measure => simp [intOf]; omega
    · obtain rfl : k = n := by omega
      go_wp2
      go_ret
      exact ⟨hB.out, _, _, _, rfl, hF.out.docs, fun h => by cases h⟩

theorem clone7_any (a : Option Addr) (n c b off : Nat) (L : Nat → Nat) (z : Nat → Nat → Int) (w : World) (h : Docs w a n b off L z) (hn : n ≤ 65536) (hL : ∀ i, i < n → L i ≤ 1048576) (hnil : a = none → n = 0 ∧ c = 0) :
    Calls Try.prog 7 #[.slice a n c] w fun e w' => Below w.heap.size w w' ∧ CopiedDocs n L z e w' := by
  cases a with
  | none =>
    obtain ⟨rfl, rfl⟩ := hnil rfl
    exact clone7_nil w _ _
  | some a => exact clone7_some a n c b off L z w h hn hL
end Go.Proofs.Qxb6625994a
