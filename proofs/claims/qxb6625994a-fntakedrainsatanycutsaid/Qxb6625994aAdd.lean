/-
  SEAT b6625994a. (*Submission).Add (function 9).
-/
import Derived.Test.Qxb6625994aSub
import Derived.Laws.AppendOwn
import Derived.OwnWalk
namespace Go.Proofs.Qxb6625994a
open Go Go.RowKit Go.MuLone

theorem cell_two_new (w : World) (x y : Value) (t : TypeId) : ∀ j u, [x, y][j]? = some u → (w.alloc (.cells #[x, y] t)).cell? ((⟨w.heap.size, 0, none⟩ : Addr).add j) = some u := by
  intro j u hj
  match j, hj with
  | 0, hj => simp at hj; subst hj; simp [Addr.add]
  | 1, hj => simp at hj; subst hj; simp [Addr.add]
  | j + 2, hj => simp at hj

theorem two_one (s : ByteArray) (a : Option Addr) (n c : Nat) : ∀ u ∈ [Value.string s, Value.slice a n c], u.oneCell' = true := by
  intro x hx
  simp at hx
  rcases hx with rfl | rfl <;> rfl

theorem own_form {w : World} {B : Nat} {v : Value} {n : Nat} {xs : List Value} (h : w.ownsRow B 36 2 v (n + 1) xs) : ∃ (a : Option Addr) (c : Nat), v = .slice a (n + 1) c := by
  rcases h.2 with ⟨_, h0⟩ | ⟨g, cap, cur, rfl, _⟩
  · omega
  · exact ⟨_, _, rfl⟩

theorem after_append {W w3 : World} {S : Nat} {C : Array Value} {a : Option Addr} {n c : Nat} {xs : List Value} {o : Obj} {v' : Value} {n' : Nat} {xs' : List Value} (ho : W.ownsRow (S + 1) 36 2 (.slice a n c) n xs) (hC : W.heap[S]? = some (.cells C 61 (0, 0))) (hg : (W.alloc o).grownBy w3 (Value.slice a n c).ownBlock) (h' : w3.ownsRow (S + 1) 36 2 v' n' xs') :
    w3.heap[S]? = some (.cells C 61 (0, 0)) ∧ Below S W w3 ∧ w3.ownsRow (S + 1) 36 2 v' n' xs' := by
  have hlt := heap_lt hC
  have hne : ∀ k, (Value.slice a n c).ownBlock = some k → S + 1 ≤ k := fun k hk => (ho.lt k hk).1
  refine ⟨?_, ((Below.refl S W).alloc (by omega) o).grown hg (by simp; omega) (fun k hk => by have := hne k hk; omega), h'⟩
  rw [hg.block S (by simp; omega) (fun e => by have := hne S e.symm; omega), Below.heap_alloc W o S hlt]
  exact hC

theorem chan_not_nil (ch : Nat) (w : World) : (binOp .eql 42 (.chan (some ch)) (.chan none)).run Try.prog w = .ok (.bool false) w := by
  kernel_rfl

set_option maxRecDepth 100000 in
set_option maxHeartbeats 1600000 in
theorem add_any (S : Nat) (a : Option Addr) (n c : Nat) (bytes added : Int) (cl : Bool) (xs : List Value) (s : ByteArray) (da : Option Addr) (L dc : Nat) (w : World)
    (hs : Hid (Sub w S a n c bytes added cl)) (ho : Hid (w.ownsRow (S + 1) 36 2 (.slice a n c) n xs)) (hn : n ≤ 65536) (hb0 : 0 ≤ bytes) (hb1 : bytes < 2097152) (ha0 : 0 ≤ added) (ha1 : added ≤ 65536) (hL : L ≤ 1048576) :
    Calls Try.prog 9 #[.pointer (some ⟨S, 0, none⟩), .string s, .slice da L dc] w fun e w' => e = .returned (.tuple #[]) ∧ Below S w w' ∧
      ∃ a' c', Sub w' S a' (n + 1) c' (bytes + L) (added + 1) cl ∧ w'.ownsRow (S + 1) 36 2 (.slice a' (n + 1) c') (n + 1) (xs ++ [.string s, .slice da L dc]) := by
  obtain ⟨C, hC, hsz, c3, c6, c7, c11, c12, c13, c14, ⟨ch, c15⟩, c16⟩ := hs.out
  have k3 : w.cell? ⟨S, 3, none⟩ = some (.int .i32 0) := by rw [cell_at hC]; exact c3
  have k12 : w.cell? ⟨S, 12, none⟩ = some (.slice a n c) := by rw [cell_at hC]; exact c12
  have k13 : w.cell? ⟨S, 13, none⟩ = some (.int .i64 bytes) := by rw [cell_at hC]; exact c13
  have k15 : w.cell? ⟨S, 15, none⟩ = some (.chan (some ch)) := by rw [cell_at hC]; exact c15
  have k16 : w.cell? ⟨S, 16, none⟩ = some (.int .i64 added) := by rw [cell_at hC]; exact c16
  have kz : ∀ i, w.frozen? ⟨S, i, none⟩ = false := frozen_at hC
  have HC : Hid (w.heap[S]? = some (.cells C 61 (0, 0)) ∧ Cells S C 0 a n c bytes added cl) := ⟨hC, hsz, c3, c6, c7, c11, c12, c13, c14, ⟨ch, c15⟩, c16⟩
  have hq := chan_not_nil ch
  have hge : decide (2097152 ≤ bytes) = false := by simp; omega
  obtain ⟨i0, hi, hz0, hz1, hz2⟩ := info_parts (P := Try.prog) (e := 36) (z := .agg #[.string ⟨#[]⟩, .slice none 0 0]) (size := 2) (bytes := 40) (by kernel_rfl)
  have Hi : Hid (Try.prog.info? 36 = some i0 ∧ i0.zero = some (.agg #[.string ⟨#[]⟩, .slice none 0 0]) ∧ i0.size = 2 ∧ i0.bytes = 40) := ⟨hi, hz0, hz1, hz2⟩
  have hown2 : Hid (((w.setCell ⟨S, 16, none⟩ (.int .i64 (added + 1))).setCell ⟨S, 3, none⟩ (.int .i32 1)).ownsRow (S + 1) 36 2 (.slice a n c) n xs) := ownsRow_setCell_below (ownsRow_setCell_below ho.out (by simp) _) (by simp) _
  have hSl : Hid (S < w.heap.size) := heap_lt hC
  have HC2 : Hid (((w.setCell ⟨S, 16, none⟩ (.int .i64 (added + 1))).setCell ⟨S, 3, none⟩ (.int .i32 1)).heap[S]? = some (.cells ((C.setIfInBounds 16 (.int .i64 (added + 1))).setIfInBounds 3 (.int .i32 1)) 61 (0, 0))) := heap_put _ (heap_put _ hC)
  have HK : Hid (Cells S ((C.setIfInBounds 16 (.int .i64 (added + 1))).setIfInBounds 3 (.int .i32 1)) 1 a n c bytes (added + 1) cl) := (HC.out.2.put16 _).put3 _
  have HP : Hid (Apart S w ((w.setCell ⟨S, 16, none⟩ (.int .i64 (added + 1))).setCell ⟨S, 3, none⟩ (.int .i32 1))) := ((Apart.refl S w).put _ _).put _ _
  have hnews : Hid (∀ j u, [Value.string s, Value.slice da L dc][j]? = some u → (((w.setCell ⟨S, 16, none⟩ (.int .i64 (added + 1))).setCell ⟨S, 3, none⟩ (.int .i32 1)).alloc (.cells #[.string s, .slice da L dc] 36)).cell? ((⟨w.heap.size, 0, none⟩ : Addr).add j) = some u) := fun j u hj => by
    have := cell_two_new ((w.setCell ⟨S, 16, none⟩ (.int .i64 (added + 1))).setCell ⟨S, 3, none⟩ (.int .i32 1)) _ _ 36 j u hj
    rw [HP.out.size] at this
    exact this
  clear hC hsz c3 c6 c7 c11 c12 c13 c14 c15 c16 hi hz0 hz1 hz2
  go_enter_defers Try.func9, Try.ntmps9
  go_wp2_with fail
  refine (lock_free muLib ⟨S, 3, none⟩ _ (by rw [World.cell?_setCell_other _ _ _ _ (by simp)]; exact k3) (by simp [kz])).mono ?_
  rintro e w1 ⟨rfl, rfl⟩
  go_wp2_with fail
  clear hq
  go_loop [33] (fun _ => True) (fun _ => 0)
  case atStart => trivial
  case round =>
    go_wp2_with (at_builtin; refine wpList_append_own _ rfl _ _ 32 rfl (S + 1) 36 i0 (.agg #[.string ⟨#[]⟩, .slice none 0 0]) 2 40 Try.underlying32 Hi.out.1 Hi.out.2.1 Hi.out.2.2.1 Hi.out.2.2.2 rfl (by decide) (.slice a n c) n xs rfl (hown2.out.alloc _) ⟨w.heap.size, 0, none⟩ 1 1 [.string s, .slice da L dc] rfl rfl hnews.out (two_one _ _ _ _) (by unfold maxLen; omega) (by omega) (by have := hSl.out; simp; omega) ?_; intro v' w3 hown' hgrow3 _; obtain ⟨a', c', rfl⟩ := own_form hown'; have H3 : Hid (w3.heap[S]? = some (.cells ((C.setIfInBounds 16 (.int .i64 (added + 1))).setIfInBounds 3 (.int .i32 1)) 61 (0, 0)) ∧ Below S ((w.setCell ⟨S, 16, none⟩ (.int .i64 (added + 1))).setCell ⟨S, 3, none⟩ (.int .i32 1)) w3 ∧ w3.ownsRow (S + 1) 36 2 (.slice a' (n + 1) c') (n + 1) (xs ++ [.string s, .slice da L dc])) := after_append hown2.out HC2.out hgrow3 hown'; clear hown' hgrow3; have q12 : w3.cell? ⟨S, 12, none⟩ = some (.slice a n c) := (cell_at H3.out.1 12).trans HK.out.2.2.2.2.2.1; have q13 : w3.cell? ⟨S, 13, none⟩ = some (.int .i64 bytes) := (cell_at H3.out.1 13).trans HK.out.2.2.2.2.2.2.1; have qz : ∀ i, w3.frozen? ⟨S, i, none⟩ = false := frozen_at H3.out.1)
    have HK4 : Hid (Cells S ((((C.setIfInBounds 16 (.int .i64 (added + 1))).setIfInBounds 3 (.int .i32 1)).setIfInBounds 12 (.slice a' (n + 1) c')).setIfInBounds 13 (.int .i64 (bytes + L))) 1 a' (n + 1) c' (bytes + L) (added + 1) cl) := (HK.out.put12 _ _ _).put13 _
    refine (broadcast_any S _ _ ⟨heap_put _ (heap_put _ H3.out.1), HK4.out.1⟩ HK4.out.2.2.1 HK4.out.2.2.2.1 HK4.out.2.2.2.2.1).mono ?_
    rintro e w5 ⟨rfl, hA, C', hC', hs', hrest, h11'⟩
    have H5 : Hid (Apart S w3 w5 ∧ w5.heap[S]? = some (.cells C' 61 (0, 0)) ∧ Cells S C' 1 a' (n + 1) c' (bytes + L) (added + 1) cl) := ⟨(((Apart.refl S w3).put _ _).put _ _).trans hA, hC', HK4.out.check hs' hrest h11'⟩
    clear hA hC' hs' hrest h11'
    go_wp2_with fail
    refine leaves_cons (f := 21) (args := #[.pointer (some ⟨S, 3, none⟩)]) (by simp) (by simp [go_sem]) ?_
    refine (unlock_deferred muLib ⟨S, 3, none⟩ .returning _ ((cell_at H5.out.2.1 3).trans H5.out.2.2.2.1) (frozen_at H5.out.2.1 3)).mono ?_
    rintro e u' w'' ⟨rfl, rfl, rfl⟩
    have hA := H5.out.1.put 3 (.int .i32 0)
    exact ⟨_, results_none rfl _ _ _, rfl, HP.out.below.trans (H3.out.2.1.trans hA.below), a', c', ⟨_, heap_put _ H5.out.2.1, H5.out.2.2.put3 0⟩, hA.owns H3.out.2.2⟩
end Go.Proofs.Qxb6625994a
