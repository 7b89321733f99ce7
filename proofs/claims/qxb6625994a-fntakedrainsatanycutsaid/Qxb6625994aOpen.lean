/-
  SEAT b6625994a. THE ARGUMENTS OPENED: a []string is a Row, a [][]byte is a Docs.
-/
import Derived.Test.Qxb6625994aDocs
import Derived.WalkKit
import Derived.ProofKit
import Derived.OpenShut
import Derived.SliceStrings
import Derived.Deep.Matrix
namespace Go.Proofs.Qxb6625994a
open Go Go.RowKit Go.ChangeShapes Go.WideShapes Go.ChangeAt Go.Deep

theorem row_at {w : World} {x : Addr} {l : Nat} {v : Nat → Value} (h : ∀ i, i < l → w.cell? (x.add i) = some (v i)) : ∃ b off, Row w (some x) l b off v := by
  by_cases hl : l = 0
  · subst hl
    exact ⟨0, 0, Or.inl rfl, fun i hi => by omega⟩
  · obtain ⟨b, off, spot⟩ := x
    have hspot : spot = none := by simpa [Addr.add] using World.cell?_spot (h 0 (by omega))
    subst hspot
    exact ⟨b, off, Or.inr rfl, fun j hj => by rw [← Go.WideShapes.add_plain]; exact h j hj⟩

section
variable {H : Type} {enc : TypeId × Value → H} {w : World} {base : Nat} {held : Bool}

theorem names_of {a : Option Addr} {n c : Nat} {fuel : Nat} {x : DataW H × List MemPlace} (h : DataW.trod enc Try.prog w base (fun _ => true) held fuel 22 [.slice a n c] = some x) :
    ∃ (b off : Nat) (s : Nat → ByteArray), Row w a n b off (fun i => .string (s i)) ∧ (a = none → n = 0 ∧ c = 0) ∧ (n : Int) ≤ 9223372036854775807 := by
  rcases open_strings Try.underlying22 Try.underlying9 (by kernel_rfl) h with ⟨hcs, _⟩ | ⟨y, l, cap, ss, hcs, _, hl, hm, hlen, _, hcell, _⟩
  · simp at hcs
    obtain ⟨rfl, rfl, rfl⟩ := hcs
    exact ⟨0, 0, fun _ => ByteArray.empty, ⟨Or.inl rfl, fun i hi => by omega⟩, fun _ => ⟨rfl, rfl⟩, by omega⟩
  · simp at hcs
    obtain ⟨rfl, rfl, rfl⟩ := hcs
    simp only [if_true] at hlen
    obtain ⟨b, off, hr⟩ := row_at (w := w) (x := y) (l := n) (v := fun i => .string (ss.getD i ByteArray.empty)) (fun i hi => hcell i (by omega))
    exact ⟨b, off, _, hr, (fun h => by cases h), by unfold maxLen at hm; omega⟩

theorem docs_of {a : Option Addr} {n c : Nat} {fuel : Nat} {x : DataW H × List MemPlace} (h : DataW.trod enc Try.prog w base (fun _ => true) held fuel 23 [.slice a n c] = some x) :
    ∃ (b off : Nat) (L : Nat → Nat) (z : Nat → Nat → Int), Docs w a n b off L z ∧ (a = none → n = 0 ∧ c = 0) ∧ (n : Int) ≤ 9223372036854775807 := by
  rcases open_int_rows Try.underlying23 Try.underlying25 Try.underlying5 (by kernel_rfl) (by kernel_rfl) h with ⟨hcs, _⟩ | ⟨y, l, cap, A, L, C, Z, hcs, _, hl, hm, _, hrow⟩
  · simp at hcs
    obtain ⟨rfl, rfl, rfl⟩ := hcs
    exact ⟨0, 0, fun _ => 0, fun _ _ => 0, ⟨Or.inl rfl, fun i hi => by omega⟩, fun _ => ⟨rfl, rfl⟩, by omega⟩
  · simp at hcs
    obtain ⟨rfl, rfl, rfl⟩ := hcs
    obtain ⟨b, off, hr⟩ := row_at (w := w) (x := y) (l := n) (v := fun i => .slice (A i) (L i) (C i)) (fun i hi => (hrow i (by omega)).1)
    refine ⟨b, off, L, fun r j => (Z r).getD j 0, ⟨hr.1, fun i hi => ⟨_, hr.2 i hi, ?_⟩⟩, (fun h => by cases h), by unfold maxLen at hm; omega⟩
    obtain ⟨_, h1, _, _, _, h2, h3⟩ := hrow i (by omega)
    cases hA : A i with
    | none =>
      have := h2 hA
      exact ⟨none, C i, 0, 0, by rw [← hA], ⟨Or.inl (by omega), fun j hj => by omega⟩, fun _ => ⟨by omega, this⟩⟩
    | some a' =>
      obtain ⟨db, doff, hd⟩ := row_at (w := w) (x := a') (l := L i) (v := fun j => .int .u8 ((Z i).getD j 0)) (fun j hj => (h3 a' hA).2 j (by omega))
      exact ⟨some a', C i, db, doff, by rw [← hA], hd, fun h => by cases h⟩
end
end Go.Proofs.Qxb6625994a
