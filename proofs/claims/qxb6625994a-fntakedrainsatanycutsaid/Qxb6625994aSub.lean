/-
  SEAT b6625994a. THE SUBMISSION: ITS 19 CELLS; ZZnewSubmission (function 8), Broadcast (function 23), THE FIELD READERS (functions 10, 15, 16), ZZsetClosed (function 18), THE READERS OF A PENDING ENTRY (functions 12, 14).
-/
import Derived.Test.Qxb6625994aDocs
import Derived.Test.Qxb6625994aSync
namespace Go.Proofs.Qxb6625994a
open Go Go.RowKit

/-- The cells of a Submission that is not locked and has a report; nobody waits. -/
def Cells (S : Nat) (C : Array Value) (st : Int) (a : Option Addr) (n c : Nat) (bytes added : Int) (closed : Bool) : Prop :=
  C.size = 19 ∧ C[3]? = some (.int .i32 st) ∧ C[6]? = some (.int .u32 0) ∧ C[7]? = some (.int .u32 0) ∧ (C[11]? = some (.int .u64 0) ∨ C[11]? = some (.pointer (some ⟨S, 11, none⟩))) ∧ C[12]? = some (.slice a n c) ∧ C[13]? = some (.int .i64 bytes) ∧ C[14]? = some (.bool closed) ∧ (∃ ch : Nat, C[15]? = some (.chan (some ch))) ∧ C[16]? = some (.int .i64 added)

def Sub (w : World) (S : Nat) (a : Option Addr) (n c : Nat) (bytes added : Int) (closed : Bool) : Prop :=
  ∃ C : Array Value, w.heap[S]? = some (.cells C 61 (0, 0)) ∧ Cells S C 0 a n c bytes added closed

/-- The cells of a new Submission. -/
def newCells (g ch : Nat) (cl : Bool) : Array Value :=
  #[.pointer none, .pointer none, .string ⟨#[]⟩, .int .i32 0, .int .u32 0, .iface 62 (.pointer (some ⟨g, 3, none⟩)), .int .u32 0, .int .u32 0, .int .u64 0, .pointer none, .pointer none, .int .u64 0, .slice none 0 0, .int .i64 0, .bool cl, .chan (some ch), .int .i64 0, .int .i64 0, .bool false]

theorem mk0 (w : World) : (Instr.makeChan 42 (.int .i64 0)).run Try.prog w = .ok (.chan (some w.heap.size)) (w.alloc (.chan 0 #[] false 0 0 false)) := by kernel_rfl

set_option maxRecDepth 100000 in
set_option maxHeartbeats 800000 in
theorem new_any (cl : Bool) (w : World) : Calls Try.prog 8 #[.bool cl] w fun e w' => Below w.heap.size w w' ∧ ∃ S, e = .returned (.pointer (some ⟨S, 0, none⟩)) ∧ w.heap.size ≤ S ∧ Sub w' S none 0 0 0 0 cl ∧ w'.heap.size = S + 1 := by
  have hmk := mk0
  go_enter Try.func8, Try.ntmps8
  go_wp2
  go_ret
  refine ⟨((Below.refl _ w).alloc (Nat.le_refl _) _).alloc (by simp) _, w.heap.size + 1, rfl, by omega, ⟨newCells (w.heap.size + 1) w.heap.size cl, ?_, rfl, rfl, rfl, rfl, Or.inl rfl, rfl, rfl, rfl, ⟨_, rfl⟩, rfl⟩, by simp⟩
  have := heap_alloc_new (w.alloc (.chan 0 #[] false 0 0 false)) (.cells (newCells (w.heap.size + 1) w.heap.size cl) 61)
  rw [World.size_alloc] at this
  exact this

theorem Cells.put3 {S : Nat} {C : Array Value} {st : Int} {a : Option Addr} {n c : Nat} {bytes added : Int} {closed : Bool} (h : Cells S C st a n c bytes added closed) (x : Int) : Cells S (C.setIfInBounds 3 (.int .i32 x)) x a n c bytes added closed := by
  obtain ⟨h0, h3, h6, h7, h11, h12, h13, h14, h15, h16⟩ := h
  exact ⟨by simp [h0], by simp [h0], by simpa [Array.getElem?_setIfInBounds] using h6, by simpa [Array.getElem?_setIfInBounds] using h7, by simpa [Array.getElem?_setIfInBounds] using h11, by simpa [Array.getElem?_setIfInBounds] using h12, by simpa [Array.getElem?_setIfInBounds] using h13, by simpa [Array.getElem?_setIfInBounds] using h14, by simpa [Array.getElem?_setIfInBounds] using h15, by simpa [Array.getElem?_setIfInBounds] using h16⟩

theorem Cells.put12 {S : Nat} {C : Array Value} {st : Int} {a : Option Addr} {n c : Nat} {bytes added : Int} {closed : Bool} (h : Cells S C st a n c bytes added closed) (a' : Option Addr) (n' c' : Nat) : Cells S (C.setIfInBounds 12 (.slice a' n' c')) st a' n' c' bytes added closed := by
  obtain ⟨h0, h3, h6, h7, h11, h12, h13, h14, h15, h16⟩ := h
  exact ⟨by simp [h0], by simpa [Array.getElem?_setIfInBounds] using h3, by simpa [Array.getElem?_setIfInBounds] using h6, by simpa [Array.getElem?_setIfInBounds] using h7, by simpa [Array.getElem?_setIfInBounds] using h11, by simp [h0], by simpa [Array.getElem?_setIfInBounds] using h13, by simpa [Array.getElem?_setIfInBounds] using h14, by simpa [Array.getElem?_setIfInBounds] using h15, by simpa [Array.getElem?_setIfInBounds] using h16⟩

theorem Cells.put13 {S : Nat} {C : Array Value} {st : Int} {a : Option Addr} {n c : Nat} {bytes added : Int} {closed : Bool} (h : Cells S C st a n c bytes added closed) (x : Int) : Cells S (C.setIfInBounds 13 (.int .i64 x)) st a n c x added closed := by
  obtain ⟨h0, h3, h6, h7, h11, h12, h13, h14, h15, h16⟩ := h
  exact ⟨by simp [h0], by simpa [Array.getElem?_setIfInBounds] using h3, by simpa [Array.getElem?_setIfInBounds] using h6, by simpa [Array.getElem?_setIfInBounds] using h7, by simpa [Array.getElem?_setIfInBounds] using h11, by simpa [Array.getElem?_setIfInBounds] using h12, by simp [h0], by simpa [Array.getElem?_setIfInBounds] using h14, by simpa [Array.getElem?_setIfInBounds] using h15, by simpa [Array.getElem?_setIfInBounds] using h16⟩

theorem Cells.put14 {S : Nat} {C : Array Value} {st : Int} {a : Option Addr} {n c : Nat} {bytes added : Int} {closed : Bool} (h : Cells S C st a n c bytes added closed) (x : Bool) : Cells S (C.setIfInBounds 14 (.bool x)) st a n c bytes added x := by
  obtain ⟨h0, h3, h6, h7, h11, h12, h13, h14, h15, h16⟩ := h
  exact ⟨by simp [h0], by simpa [Array.getElem?_setIfInBounds] using h3, by simpa [Array.getElem?_setIfInBounds] using h6, by simpa [Array.getElem?_setIfInBounds] using h7, by simpa [Array.getElem?_setIfInBounds] using h11, by simpa [Array.getElem?_setIfInBounds] using h12, by simpa [Array.getElem?_setIfInBounds] using h13, by simp [h0], by simpa [Array.getElem?_setIfInBounds] using h15, by simpa [Array.getElem?_setIfInBounds] using h16⟩

theorem Cells.put16 {S : Nat} {C : Array Value} {st : Int} {a : Option Addr} {n c : Nat} {bytes added : Int} {closed : Bool} (h : Cells S C st a n c bytes added closed) (x : Int) : Cells S (C.setIfInBounds 16 (.int .i64 x)) st a n c bytes x closed := by
  obtain ⟨h0, h3, h6, h7, h11, h12, h13, h14, h15, h16⟩ := h
  exact ⟨by simp [h0], by simpa [Array.getElem?_setIfInBounds] using h3, by simpa [Array.getElem?_setIfInBounds] using h6, by simpa [Array.getElem?_setIfInBounds] using h7, by simpa [Array.getElem?_setIfInBounds] using h11, by simpa [Array.getElem?_setIfInBounds] using h12, by simpa [Array.getElem?_setIfInBounds] using h13, by simpa [Array.getElem?_setIfInBounds] using h14, by simpa [Array.getElem?_setIfInBounds] using h15, by simp [h0]⟩

theorem Cells.check {S : Nat} {C C' : Array Value} {st : Int} {a : Option Addr} {n c : Nat} {bytes added : Int} {closed : Bool} (h : Cells S C st a n c bytes added closed) (h1 : C'.size = 19) (h2 : ∀ i, i ≠ 11 → C'[i]? = C[i]?) (h3 : C'[11]? = some (.pointer (some ⟨S, 11, none⟩))) : Cells S C' st a n c bytes added closed := by
  obtain ⟨_, g3, g6, g7, _, g12, g13, g14, g15, g16⟩ := h
  exact ⟨h1, by rw [h2 _ (by decide)]; exact g3, by rw [h2 _ (by decide)]; exact g6, by rw [h2 _ (by decide)]; exact g7, Or.inr h3, by rw [h2 _ (by decide)]; exact g12, by rw [h2 _ (by decide)]; exact g13, by rw [h2 _ (by decide)]; exact g14, by rw [h2 _ (by decide)]; exact g15, by rw [h2 _ (by decide)]; exact g16⟩

/-- All blocks but S are as they were. -/
structure Apart (S : Nat) (w w' : World) : Prop where
  os : w'.os = w.os
  tape : w'.tape = w.tape
  output : w'.output = w.output
  size : w'.heap.size = w.heap.size
  block : ∀ k, k ≠ S → w'.heap[k]? = w.heap[k]?

theorem Apart.refl (S : Nat) (w : World) : Apart S w w := ⟨rfl, rfl, rfl, rfl, fun _ _ => rfl⟩
theorem Apart.put {S : Nat} {w w' : World} (h : Apart S w w') (i : Nat) (v : Value) : Apart S w (w'.setCell ⟨S, i, none⟩ v) :=
  ⟨h.os, h.tape, h.output, by rw [← h.size]; simp [World.setCell], fun k hk => by rw [Below.heap_setCell _ _ _ _ hk]; exact h.block k hk⟩
theorem Apart.trans {S : Nat} {a b c : World} (h : Apart S a b) (k : Apart S b c) : Apart S a c :=
  ⟨k.os.trans h.os, k.tape.trans h.tape, k.output.trans h.output, k.size.trans h.size, fun x hx => (k.block x hx).trans (h.block x hx)⟩
theorem Apart.below {S : Nat} {w w' : World} (h : Apart S w w') : Below S w w' := ⟨h.os, h.tape, h.output, Nat.le_of_eq h.size.symm, fun k hk => h.block k (by omega)⟩
theorem Apart.owns {S : Nat} {w w' : World} (h : Apart S w w') {e : TypeId} {size n : Nat} {v : Value} {xs : List Value} (ho : w.ownsRow (S + 1) e size v n xs) : w'.ownsRow (S + 1) e size v n xs := by
  refine ⟨ho.1, ?_⟩
  rcases ho.2 with hn | ⟨g, cap, cur, hv, hb, hg, rest⟩
  · exact .inl hn
  · exact .inr ⟨g, cap, cur, hv, hb, by rw [h.block g (by omega)]; exact hg, rest⟩

set_option maxRecDepth 100000 in
set_option maxHeartbeats 800000 in
theorem broadcast_any (S : Nat) (C : Array Value) (w : World) (hS : Hid (w.heap[S]? = some (.cells C 61 (0, 0)) ∧ C.size = 19)) (h6 : C[6]? = some (.int .u32 0)) (h7 : C[7]? = some (.int .u32 0)) (h11 : Hid (C[11]? = some (.int .u64 0) ∨ C[11]? = some (.pointer (some ⟨S, 11, none⟩)))) :
    Calls Try.prog 23 #[.pointer (some ⟨S, 5, none⟩)] w fun e w' => e = .returned (.tuple #[]) ∧ Apart S w w' ∧ ∃ C', w'.heap[S]? = some (.cells C' 61 (0, 0)) ∧ C'.size = 19 ∧ (∀ i, i ≠ 11 → C'[i]? = C[i]?) ∧ C'[11]? = some (.pointer (some ⟨S, 11, none⟩)) := by
  have hc6 : w.cell? ⟨S, 6, none⟩ = some (.int .u32 0) := by rw [cell_at hS.out.1]; exact h6
  have hc7 : w.cell? ⟨S, 7, none⟩ = some (.int .u32 0) := by rw [cell_at hS.out.1]; exact h7
  rcases h11.out with h | h
  · have hc11 : w.cell? ⟨S, 11, none⟩ = some (.int .u64 0) := by rw [cell_at hS.out.1]; exact h
    have r1 := check_first ⟨S, 11, none⟩ w hc11 (frozen_at hS.out.1 11)
    have r2 := notify_none ⟨S, 6, none⟩ (w.setCell ⟨S, 11, none⟩ (.pointer (some ⟨S, 11, none⟩))) (by rw [World.cell?_setCell_other _ _ _ _ (by simp)]; exact hc6) (by show _ = _; rw [World.cell?_setCell_other _ _ _ _ (by simp [Addr.add])]; exact hc7)
    have hP : Hid (Apart S w (w.setCell ⟨S, 11, none⟩ (.pointer (some ⟨S, 11, none⟩))) ∧ (w.setCell ⟨S, 11, none⟩ (.pointer (some ⟨S, 11, none⟩))).heap[S]? = some (.cells (C.setIfInBounds 11 (.pointer (some ⟨S, 11, none⟩))) 61 (0, 0))) := ⟨(Apart.refl S w).put _ _, heap_put _ hS.out.1⟩
    clear hc6 hc7 h6 h7 h
    go_enter Try.func23, Try.ntmps23
    go_wp2
    refine bodyPost_end (v := .tuple #[]) (results_none rfl _ _ _) rfl ⟨rfl, hP.out.1, _, hP.out.2, by simp [hS.out.2], fun i hi => ?_, ?_⟩
    · rw [Array.getElem?_setIfInBounds_ne (Ne.symm hi)]
    · rw [Array.getElem?_setIfInBounds_self_of_lt (by rw [hS.out.2]; decide)]
  · have hc11 : w.cell? ⟨S, 11, none⟩ = some (.pointer (some ⟨S, 11, none⟩)) := by rw [cell_at hS.out.1]; exact h
    have r1 := check_again ⟨S, 11, none⟩ w hc11
    have r2 := notify_none ⟨S, 6, none⟩ w hc6 hc7
    have hP : Hid (C[11]? = some (.pointer (some ⟨S, 11, none⟩))) := h
    clear hc6 hc7 h6 h7 h
    go_enter Try.func23, Try.ntmps23
    go_wp2
    exact bodyPost_end (v := .tuple #[]) (results_none rfl _ _ _) rfl ⟨rfl, Apart.refl _ _, C, hS.out.1, hS.out.2, fun i hi => rfl, hP.out⟩

theorem bytes_any (S : Nat) (x : Int) (w : World) (h : w.cell? ⟨S, 13, none⟩ = some (.int .i64 x)) : Calls Try.prog 10 #[.pointer (some ⟨S, 0, none⟩)] w fun e w' => e = .returned (.int .i64 x) ∧ w' = w := by
  go_enter Try.func10, Try.ntmps10
  go_wp2
  go_ret
  exact ⟨rfl, rfl⟩

theorem len_any (S : Nat) (a : Option Addr) (n c : Nat) (w : World) (h : w.cell? ⟨S, 12, none⟩ = some (.slice a n c)) : Calls Try.prog 15 #[.pointer (some ⟨S, 0, none⟩)] w fun e w' => e = .returned (.int .i64 (n : Int)) ∧ w' = w := by
  go_enter Try.func15, Try.ntmps15
  go_wp2
  go_ret
  exact ⟨rfl, rfl⟩

theorem added_any (S : Nat) (x : Int) (w : World) (h : w.cell? ⟨S, 16, none⟩ = some (.int .i64 x)) : Calls Try.prog 16 #[.pointer (some ⟨S, 0, none⟩)] w fun e w' => e = .returned (.int .i64 x) ∧ w' = w := by
  go_enter Try.func16, Try.ntmps16
  go_wp2
  go_ret
  exact ⟨rfl, rfl⟩

theorem close_any (S : Nat) (b : Bool) (w : World) (h : w.cell? ⟨S, 14, none⟩ = some (.bool b)) (hz : w.frozen? ⟨S, 14, none⟩ = false) : Calls Try.prog 18 #[.pointer (some ⟨S, 0, none⟩)] w fun e w' => e = .returned (.tuple #[]) ∧ w' = w.setCell ⟨S, 14, none⟩ (.bool true) := by
  go_enter Try.func18, Try.ntmps18
  go_wp2
  exact bodyPost_end (v := .tuple #[]) (results_none rfl _ _ _) rfl ⟨rfl, rfl⟩

theorem name_any (s : ByteArray) (a : Option Addr) (n c : Nat) (w : World) : Calls Try.prog 12 #[.agg #[.string s, .slice a n c]] w fun e w' => e = .returned (.string s) ∧ w' = w.alloc (.cells #[.string s, .slice a n c] 36) := by
  go_enter Try.func12, Try.ntmps12
  go_wp2
  go_ret
  exact ⟨rfl, rfl⟩

theorem doc_any (s : ByteArray) (a : Option Addr) (n c : Nat) (w : World) : Calls Try.prog 14 #[.agg #[.string s, .slice a n c]] w fun e w' => e = .returned (.slice a n c) ∧ w' = w.alloc (.cells #[.string s, .slice a n c] 36) := by
  go_enter Try.func14, Try.ntmps14
  go_wp2
  go_ret
  exact ⟨rfl, rfl⟩
end Go.Proofs.Qxb6625994a
