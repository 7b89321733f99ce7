/-
  SEAT b6625994a. WHAT THE LAWS KEEP: the sum of lengths, the entries that wait.
-/
import Derived.Test.Qxb6625994aBound
import Derived.Test.Qxb6625994aAdd
import Derived.Test.Qxb6625994aTake
namespace Go.Proofs.Qxb6625994a
open Go Go.RowKit

/-- The sum of k lengths from lo on. -/
def tot (L : Nat → Nat) (lo : Nat) : Nat → Nat
  | 0 => 0
  | k + 1 => tot L lo k + L (lo + k)

theorem tot_mono (L : Nat → Nat) (lo : Nat) : ∀ d k, tot L lo k ≤ tot L lo (k + d)
  | 0, _ => Nat.le_refl _
  | d + 1, k => Nat.le_trans (tot_mono L lo d k) (by rw [← Nat.add_assoc, tot]; omega)

theorem tot_shift (L : Nat → Nat) (lo : Nat) : ∀ k, tot L 0 lo + tot L lo k = tot L 0 (lo + k)
  | 0 => by simp [tot]
  | k + 1 => by
    have := tot_shift L lo k
    show tot L 0 lo + (tot L lo k + L (lo + k)) = tot L 0 (lo + k) + L (0 + (lo + k))
    rw [Nat.zero_add]
    omega

theorem tot_le (L : Nat → Nat) (lo k m : Nat) (h : lo + k ≤ m) : tot L lo k ≤ tot L 0 m := by
  have h1 := tot_shift L lo k
  have h2 := tot_mono L 0 (m - (lo + k)) (lo + k)
  rw [show lo + k + (m - (lo + k)) = m by omega] at h2
  omega

/-- The first k entries that wait are the inputs' from lo on. -/
def Entries (w : World) (xs : List Value) (lo k : Nat) (s : Nat → ByteArray) (L : Nat → Nat) (z : Nat → Nat → Int) : Prop :=
  ∀ i, i < k → ∃ v, xs[i * 2]? = some (.string (s (lo + i))) ∧ xs[i * 2 + 1]? = some v ∧ Doc w v (L (lo + i)) (z (lo + i))

theorem Entries.step {w : World} {xs : List Value} {lo k : Nat} {s : Nat → ByteArray} {L : Nat → Nat} {z : Nat → Nat → Int} (h : Entries w xs lo k s L z) (hl : xs.length = k * 2) {v : Value} (hv : Doc w v (L (lo + k)) (z (lo + k))) : Entries w (xs ++ [.string (s (lo + k)), v]) lo (k + 1) s L z := by
  intro i hi
  by_cases e : i = k
  · subst e
    refine ⟨v, ?_, ?_, hv⟩
    · rw [List.getElem?_append_right (by omega), hl]
      simp
    · rw [List.getElem?_append_right (by omega), hl, show i * 2 + 1 - i * 2 = 1 by omega]
      simp
  · obtain ⟨u, h1, h2, h3⟩ := h i (by omega)
    exact ⟨u, by rw [List.getElem?_append_left (by omega)]; exact h1, by rw [List.getElem?_append_left (by omega)]; exact h2, h3⟩

/-- The four copies, in the world w. -/
structure Copies (w : World) (a2 a3 a4 a5 : Option Addr) (b2 b3 b4 b5 n m : Nat) (s : Nat → ByteArray) (L : Nat → Nat) (z : Nat → Nat → Int) : Prop where
  names : Row w a2 n b2 0 fun i => .string (s i)
  docs : Docs w a3 m b3 0 L z
  wnames : Row w a4 n b4 0 fun i => .string (s i)
  wdocs : Docs w a5 m b5 0 L z

/-- What waits: n entries in a row of the call's own, the bytes and the count; the copies' world w0 is kept. -/
structure Waits (w0 w : World) (S : Nat) (a : Option Addr) (n c : Nat) (bytes added : Int) (cl : Bool) (xs : List Value) (lo : Nat) (s : Nat → ByteArray) (L : Nat → Nat) (z : Nat → Nat → Int) : Prop where
  sub : Sub w S a n c bytes added cl
  own : w.ownsRow (S + 1) 36 2 (.slice a n c) n xs
  below : Below w0.heap.size w0 w
  ents : Entries w0 xs lo n s L z

theorem Waits.drew {w0 w : World} {S : Nat} {a : Option Addr} {n c : Nat} {bytes added : Int} {cl : Bool} {xs : List Value} {lo : Nat} {s : Nat → ByteArray} {L : Nat → Nat} {z : Nat → Nat → Int} (h : Waits w0 w S a n c bytes added cl xs lo s L z) (q : Nat) : Waits w0 (w.drewN q) S a n c bytes added cl xs lo s L z :=
  ⟨h.sub, h.own, h.below.trans ⟨rfl, rfl, rfl, Nat.le_refl _, fun _ _ => rfl⟩, h.ents⟩

theorem Waits.add {w0 w w' : World} {S : Nat} {a : Option Addr} {n c : Nat} {bytes added : Int} {cl : Bool} {xs : List Value} {lo : Nat} {s : Nat → ByteArray} {L : Nat → Nat} {z : Nat → Nat → Int} (h : Waits w0 w S a n c bytes added cl xs lo s L z) (hq : w0.heap.size ≤ S) (hb : Below S w w')
    {a' : Option Addr} {c' : Nat} {bytes' added' : Int} {da : Option Addr} {dc : Nat} (hs : Sub w' S a' (n + 1) c' bytes' added' cl) (ho : w'.ownsRow (S + 1) 36 2 (.slice a' (n + 1) c') (n + 1) (xs ++ [.string (s (lo + n)), .slice da (L (lo + n)) dc])) (hd : Doc w0 (.slice da (L (lo + n)) dc) (L (lo + n)) (z (lo + n))) :
    Waits w0 w' S a' (n + 1) c' bytes' added' cl (xs ++ [.string (s (lo + n)), .slice da (L (lo + n)) dc]) lo s L z :=
  ⟨hs, ho, h.below.trans (hb.mono hq), h.ents.step h.own.1 hd⟩

theorem Sub.cell12 {w : World} {S : Nat} {a : Option Addr} {n c : Nat} {bytes added : Int} {cl : Bool} (h : Sub w S a n c bytes added cl) : w.cell? ⟨S, 12, none⟩ = some (.slice a n c) := by
  obtain ⟨C, hC, hK⟩ := h
  rw [cell_at hC]; exact hK.2.2.2.2.2.1

theorem Sub.cell13 {w : World} {S : Nat} {a : Option Addr} {n c : Nat} {bytes added : Int} {cl : Bool} (h : Sub w S a n c bytes added cl) : w.cell? ⟨S, 13, none⟩ = some (.int .i64 bytes) := by
  obtain ⟨C, hC, hK⟩ := h
  rw [cell_at hC]; exact hK.2.2.2.2.2.2.1

theorem Sub.cell14 {w : World} {S : Nat} {a : Option Addr} {n c : Nat} {bytes added : Int} {cl : Bool} (h : Sub w S a n c bytes added cl) : w.cell? ⟨S, 14, none⟩ = some (.bool cl) := by
  obtain ⟨C, hC, hK⟩ := h
  rw [cell_at hC]; exact hK.2.2.2.2.2.2.2.1

theorem Sub.cell16 {w : World} {S : Nat} {a : Option Addr} {n c : Nat} {bytes added : Int} {cl : Bool} (h : Sub w S a n c bytes added cl) : w.cell? ⟨S, 16, none⟩ = some (.int .i64 added) := by
  obtain ⟨C, hC, hK⟩ := h
  rw [cell_at hC]; exact hK.2.2.2.2.2.2.2.2.2

theorem Sub.frozen {w : World} {S : Nat} {a : Option Addr} {n c : Nat} {bytes added : Int} {cl : Bool} (h : Sub w S a n c bytes added cl) (i : Nat) : w.frozen? ⟨S, i, none⟩ = false := by
  obtain ⟨C, hC, hK⟩ := h
  exact frozen_at hC i

theorem Sub.lt {w : World} {S : Nat} {a : Option Addr} {n c : Nat} {bytes added : Int} {cl : Bool} (h : Sub w S a n c bytes added cl) : S < w.heap.size := by
  obtain ⟨C, hC, hK⟩ := h
  exact heap_lt hC

theorem Sub.close {w : World} {S : Nat} {a : Option Addr} {n c : Nat} {bytes added : Int} {cl : Bool} (h : Sub w S a n c bytes added cl) : Sub (w.setCell ⟨S, 14, none⟩ (.bool true)) S a n c bytes added true := by
  obtain ⟨C, hC, hK⟩ := h
  exact ⟨_, heap_put _ hC, hK.put14 true⟩

/-- A world behind that keeps every block that was there keeps the submission. -/
theorem Sub.kept {w w' : World} {B S : Nat} {a : Option Addr} {n c : Nat} {bytes added : Int} {cl : Bool} (h : Sub w S a n c bytes added cl) (hb : Below B w w') (hB : S < B) : Sub w' S a n c bytes added cl := by
  obtain ⟨C, hC, hK⟩ := h
  exact ⟨C, by rw [hb.block S hB]; exact hC, hK⟩

/-- The index law of a []pending. -/
theorem index32 {w : World} {S : Nat} {a : Option Addr} {n c : Nat} {xs : List Value} (h : w.ownsRow (S + 1) 36 2 (.slice a n c) n xs) (hk0 : 0 < n) : ∃ g : Nat, (∀ (k : Nat) (x : Int), x = (k : Int) → k < n → ∀ wx : World, (Instr.indexAt 32 (.slice a n c) (.int .i64 x)).run Try.prog wx = .ok (.pointer (some ⟨g, k * 2, none⟩)) wx) ∧ ∀ j, j < n * 2 → w.cell? ⟨g, j, none⟩ = xs[j]? := by
  rcases h.2 with ⟨_, h0⟩ | ⟨g, cap, cur, hv, hb, hg, hle, hcap, hcs, hxs⟩
  · omega
  · injection hv with ha _ hc
    subst ha
    refine ⟨g, fun k x hx hk wx => ?_, fun j hj => ?_⟩
    · subst hx
      have es : ∀ wx, (sizeOf (Try.prog.elem 32)).run Try.prog wx = .ok 2 wx := fun _ => by kernel_rfl
      rw [run_indexAt_slice wx 32 ⟨g, 0, none⟩ n c .i64 (k : Int) (by kernel_rfl), if_pos (by omega), es]
      simp [Result.andThen, Addr.add]
      intro h0
      exact h0.symm
    · rw [cell_at hg, ← hxs, List.getElem?_take_of_lt hj]
      simp

theorem Waits.same {w0 w W : World} {S : Nat} {a : Option Addr} {n c : Nat} {bytes added : Int} {cl : Bool} {xs : List Value} {lo : Nat} {s : Nat → ByteArray} {L : Nat → Nat} {z : Nat → Nat → Int} (h : Waits w0 w S a n c bytes added cl xs lo s L z) (h1 : W.heap = w.heap) (h2 : W.os = w.os) (h3 : W.tape = w.tape) (h4 : W.output = w.output) : Waits w0 W S a n c bytes added cl xs lo s L z := by
  refine ⟨?_, ?_, h.below.trans ⟨h2, h3, h4, by rw [h1]; exact Nat.le_refl _, fun _ _ => by rw [h1]⟩, h.ents⟩
  · have := h.sub
    unfold Sub at this ⊢
    rw [h1]
    exact this
  · have := h.own
    unfold World.ownsRow at this ⊢
    rw [h1]
    exact this

theorem below_eq {B : Nat} {a b b' : World} (h : Below B a b) (h1 : b'.heap = b.heap) (h2 : b'.os = b.os) (h3 : b'.tape = b.tape) (h4 : b'.output = b.output) : Below B a b' :=
  h.trans ⟨h2, h3, h4, by rw [h1]; exact Nat.le_refl _, fun _ _ => by rw [h1]⟩

theorem Row.same {w W : World} {a : Option Addr} {len b off : Nat} {v : Nat → Value} (h : Row w a len b off v) (h1 : W.heap = w.heap) : Row W a len b off v := by
  unfold Row World.cell? at *
  rw [h1]
  exact h

/-- Two documents of the same bytes, in a world that keeps both. -/
theorem same_docs {w0 w W : World} {da da' : Option Addr} {dc dc' l : Nat} {zz : Nat → Int} (h : Below w0.heap.size w0 w) (d : Doc w0 (.slice da l dc) l zz) (d' : Doc w0 (.slice da' l dc') l zz) (hl : l ≤ 1048576) (hW : W.heap = w.heap) :
    Calls Try.prog 13 #[.slice da l dc, .slice da' l dc'] W fun e w' => e = .returned (.bool true) ∧ ∃ q, w' = W.drewN q := by
  obtain ⟨x, y, db, off, e, hr, _⟩ := d
  obtain ⟨x', y', db', off', e', hr', _⟩ := d'
  injection e with e1 _ e2
  injection e' with e1' _ e2'
  subst e1 e2 e1' e2'
  exact same_any _ _ l _ _ db db' off off' zz W ((hr.kept (Nat.le_refl _) h).same hW) ((hr'.kept (Nat.le_refl _) h).same hW) hl

/-- Add, told by what waits. -/
theorem add_waits (w0 W : World) (S : Nat) (a : Option Addr) (n c : Nat) (x added : Int) (cl : Bool) (xs : List Value) (lo : Nat) (s : Nat → ByteArray) (L : Nat → Nat) (z : Nat → Nat → Int) (i : Nat) (da : Option Addr) (dc : Nat) (p : Addr) (v : Value)
    (hi : i = lo + n) (hW : Waits w0 W S a n c x added cl xs lo s L z) (hq : w0.heap.size ≤ S) (hd : Doc w0 (.slice da (L i) dc) (L i) (z i)) (hn : n ≤ 65536) (hb0 : 0 ≤ x) (hb1 : x < 2097152) (ha0 : 0 ≤ added) (ha1 : added ≤ 65536) (hL : L i ≤ 1048576) (hp : w0.cell? p = some v) :
    Calls Try.prog 9 #[.pointer (some ⟨S, 0, none⟩), .string (s i), .slice da (L i) dc] W fun e w' => e = .returned (.tuple #[]) ∧ w'.cell? p = some v ∧ Hid (∃ a' c' xs', Waits w0 w' S a' (n + 1) c' (x + L i) (added + 1) cl xs' lo s L z) := by
  subst hi
  refine (add_any S a n c x added cl xs (s (lo + n)) da (L (lo + n)) dc W hW.sub hW.own hn hb0 hb1 ha0 ha1 hL).mono ?_
  rintro e w' ⟨rfl, hb, a', c', hs, ho⟩
  have h2 := hW.add hq hb hs ho hd
  exact ⟨rfl, by rw [h2.below.cell (block_lt_of_cell hp)]; exact hp, a', c', _, h2⟩
end Go.Proofs.Qxb6625994a
