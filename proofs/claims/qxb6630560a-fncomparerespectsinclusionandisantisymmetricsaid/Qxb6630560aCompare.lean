/-
  SEAT b6630560a. THE WALK OF (Version).Compare (function 8).
-/
import Derived.Test.Qxb6630560aBuild
namespace Go.Proofs.Qxb6630560a
open Go Go.RowKit

set_option maxHeartbeats 400000 in
theorem cmp64_any (x y : Int) (w : World) : Calls Try.prog 13 #[.int .u64 x, .int .u64 y] w fun e w' => e = .returned (.int .i64 (sg x y)) ∧ w' = w := by
  by_cases h1 : x < y
  · have e : sg x y = -1 := sg_neg h1
    rw [e]; clear e
    go_enter Try.func13, Try.ntmps13
    go_wp2
    go_ret
    exact ⟨rfl, rfl⟩
  · by_cases h2 : y < x
    · have e : sg x y = 1 := sg_pos h2
      rw [e]; clear e
      go_enter Try.func13, Try.ntmps13
      go_wp2
      go_ret
      exact ⟨rfl, rfl⟩
    · have e : sg x y = 0 := by unfold sg; rw [if_neg h1, if_neg h2]
      rw [e]; clear e
      go_enter Try.func13, Try.ntmps13
      go_wp2
      go_ret
      exact ⟨rfl, rfl⟩

set_option maxHeartbeats 400000 in
theorem cmpInt_any (x y : Int) (w : World) : Calls Try.prog 14 #[.int .i64 x, .int .i64 y] w fun e w' => e = .returned (.int .i64 (sg x y)) ∧ w' = w := by
  by_cases h1 : x < y
  · have e : sg x y = -1 := sg_neg h1
    rw [e]; clear e
    go_enter Try.func14, Try.ntmps14
    go_wp2
    go_ret
    exact ⟨rfl, rfl⟩
  · by_cases h2 : y < x
    · have e : sg x y = 1 := sg_pos h2
      rw [e]; clear e
      go_enter Try.func14, Try.ntmps14
      go_wp2
      go_ret
      exact ⟨rfl, rfl⟩
    · have e : sg x y = 0 := by unfold sg; rw [if_neg h1, if_neg h2]
      rw [e]; clear e
      go_enter Try.func14, Try.ntmps14
      go_wp2
      go_ret
      exact ⟨rfl, rfl⟩

/-- A version in memory: n Dots in block g. -/
def Held (w : World) (g n : Nat) (z0 z1 : Nat → Int) : Prop := ∃ C, w.heap[g]? = some (.cells C 33 (0, 0)) ∧ Dots C n z0 z1

theorem Held.cells {w : World} {g n : Nat} {z0 z1 : Nat → Int} (h : Held w g n z0 z1) (i : Nat) (hi : i < n) :
    w.cell? ⟨g, i * 2, none⟩ = some (.int .u64 (z0 i)) ∧ w.cell? ⟨g, i * 2 + 1, none⟩ = some (.int .u64 (z1 i)) := by
  obtain ⟨C, hC, hd⟩ := h
  have := hd i hi
  constructor
  · simp [World.cell?, hC, this.1]
  · simp [World.cell?, hC, this.2]

theorem Held.lt {w : World} {g n : Nat} {z0 z1 : Nat → Int} (h : Held w g n z0 z1) : g < w.heap.size := by
  obtain ⟨C, hC, _⟩ := h
  exact (Array.getElem?_eq_some_iff.1 hC).1

theorem Held.kept {w w' : World} {g n B : Nat} {z0 z1 : Nat → Int} (h : Held w g n z0 z1) (hb : Below B w w') (hg : g < B) : Held w' g n z0 z1 := by
  obtain ⟨C, hC, hd⟩ := h
  exact ⟨C, by rw [hb.block g hg]; exact hC, hd⟩

set_option maxHeartbeats 1600000 in
theorem compare_any (g0 g1 n0 n1 : Nat) (r0 s0 r1 s1 : Nat → Int) (w : World) (h0 : Hid (Held w g0 n0 r0 s0)) (h1 : Hid (Held w g1 n1 r1 s1)) (hn0 : n0 ≤ 32768) (hn1 : n1 ≤ 32768) :
    Calls Try.prog 8 #[.agg #[.slice (some ⟨g0, 0, none⟩) n0 n0], .agg #[.slice (some ⟨g1, 0, none⟩) n1 n1]] w fun e w' => e = .returned (.int .i64 (cmpR (pre r0 s0 n0) (pre r1 s1 n1))) ∧ Below w.heap.size w w' := by
  go_enter Try.func8, Try.ntmps8
  go_wp2
  go_quiet (fail)
  go_wp2
  have hl0 := h0.out.lt
  have hl1 := h1.out.lt
  go_loopw [5, 6, 7, 8] (fun t5 t6 _ _ wr => ∃ i j : Nat, i ≤ n0 ∧ j ≤ n1 ∧ Hid (cmpR (pre r0 s0 n0) (pre r1 s1 n1) = cmpR (pre r0 s0 i) (pre r1 s1 j)) ∧ t5 = .int .i64 ((i : Int) - 1) ∧ t6 = .int .i64 ((j : Int) - 1) ∧
      Below (w.heap.size + 2) ((w.alloc (Obj.cells #[Value.slice (some ⟨g0, 0, none⟩) n0 n0] 27)).alloc (Obj.cells #[Value.slice (some ⟨g1, 0, none⟩) n1 n1] 27)) wr) (fun t5 _ _ _ _ => (intOf t5 + 1).toNat)
  case atStart => exact ⟨n0, n1, Nat.le_refl _, Nat.le_refl _, rfl, rfl, rfl, below_drewN (Below.refl _ _) _⟩
  case round =>
    obtain ⟨i, j, hi, hj, hC, rfl, rfl, hb⟩ := hrel
    have hbw : Below w.heap.size w wr := (((Below.refl _ w).alloc (Nat.le_refl _) _).alloc (by simp) _).trans (hb.mono (by omega))
    have k0 := h0.out.kept hbw hl0
    have k1 := h1.out.kept hbw hl1
    have c0 : wr.cell? ⟨w.heap.size, 0, none⟩ = some (.slice (some ⟨g0, 0, none⟩) n0 n0) := by rw [hb.cell (p := ⟨w.heap.size, 0, none⟩) (by simp)]; go_simp
    have c1 : wr.cell? ⟨w.heap.size + 1, 0, none⟩ = some (.slice (some ⟨g1, 0, none⟩) n1 n1) := by rw [hb.cell (p := ⟨w.heap.size + 1, 0, none⟩) (by simp)]; go_simp
    have hsz : w.heap.size + 2 ≤ wr.heap.size := by have := hb.size; simp at this; omega
    have HB : Hid (Below (w.heap.size + 2) ((w.alloc (Obj.cells #[Value.slice (some ⟨g0, 0, none⟩) n0 n0] 27)).alloc (Obj.cells #[Value.slice (some ⟨g1, 0, none⟩) n1 n1] 27)) wr) := hb
    have HBW : Hid (Below w.heap.size w wr) := hbw
    clear hb hbw
    rcases i with _ | i
    · have e := cmp_end (rv := r0) (sv := s0) (ro := r1) (so := s1) 0 j (Or.inl rfl)
      have HE : Hid (cmpR (pre r0 s0 0) (pre r1 s1 j) = sg (((0 : Nat) : Int) - 1) ((j : Int) - 1)) := e
      clear e k0 k1
      go_wp2_with fail
      refine (cmpInt_any _ _ _).mono ?_
      rintro e w2 ⟨rfl, rfl⟩
      go_wp2_with fail
      go_ret
      exact ⟨by rw [hC.out, HE.out]; rfl, HBW.out⟩
    · rcases j with _ | j
      · have e := cmp_end (rv := r0) (sv := s0) (ro := r1) (so := s1) (i + 1) 0 (Or.inr rfl)
        have HE : Hid (cmpR (pre r0 s0 (i + 1)) (pre r1 s1 0) = sg (((i + 1 : Nat) : Int) - 1) (((0 : Nat) : Int) - 1)) := e
        clear e k0 k1
        go_wp2_with fail
        refine (cmpInt_any _ _ _).mono ?_
        rintro e w2 ⟨rfl, rfl⟩
        go_wp2_with fail
        go_ret
        exact ⟨by rw [hC.out, HE.out, show (((i + 1 : Nat) : Int) - 1) = (i : Int) by omega]; rfl, HBW.out⟩
      · obtain ⟨d0, d0'⟩ := k0.cells i (by omega)
        obtain ⟨d1, d1'⟩ := k1.cells j (by omega)
        have hdn := cmp_down (rv := r0) (sv := s0) (ro := r1) (so := s1) i j
        have HD : Hid (cmpR (pre r0 s0 (i + 1)) (pre r1 s1 (j + 1)) = if r0 i = r1 j then (if s0 i = s1 j then cmpR (pre r0 s0 i) (pre r1 s1 j) else sg (s0 i) (s1 j)) else sg (r0 i) (r1 j)) := hdn
        clear hdn k0 k1
        have hi' : i < n0 := by omega
        have hj' : j < n1 := by omega
        have q1 : w.heap.size < wr.heap.size := by omega
        have q2 : w.heap.size < wr.heap.size + 1 := by omega
        have q3 : w.heap.size + 1 < wr.heap.size := by omega
        have q4 : w.heap.size + 1 < wr.heap.size + 1 := by omega
        have q5 : g0 < wr.heap.size := by omega
        have q6 : g0 < wr.heap.size + 1 := by omega
        have q7 : g1 < wr.heap.size := by omega
        have q8 : g1 < wr.heap.size + 1 := by omega
        by_cases hr : (r0 i == r1 j) = true
        · have er : r0 i = r1 j := by simpa using hr
          have HR : Hid (r0 i = r1 j) := er
          clear er
          by_cases hss : (s0 i == s1 j) = true
          · have es : s0 i = s1 j := by simpa using hss
            have HS : Hid (cmpR (pre r0 s0 n0) (pre r1 s1 n1) = cmpR (pre r0 s0 i) (pre r1 s1 j)) := by unfold Hid; rw [hC.out, HD.out, if_pos HR.out, if_pos es]
            clear es
            go_wp2_with fail
            go_region
            all_goals
              go_wp2_with fail
              go_roundw
              case rel => exact ⟨i, j, by omega, by omega, HS, by go_num, by go_num, ((HB.out.alloc hsz _).alloc (by simp; omega) _).drew⟩
              case measure => simp [intOf]
          · have hss' : (s0 i == s1 j) = false := by simpa using hss
            have es : ¬ s0 i = s1 j := by simpa using hss
            have HS : Hid (cmpR (pre r0 s0 n0) (pre r1 s1 n1) = sg (s0 i) (s1 j)) := by unfold Hid; rw [hC.out, HD.out, if_pos HR.out, if_neg es]
            clear es hss
            go_wp2_with fail
            go_region
            all_goals
              go_wp2_with fail
              refine (cmp64_any _ _ _).mono ?_
              rintro e w2 ⟨rfl, rfl⟩
              go_wp2_with fail
              go_ret
              exact ⟨by rw [HS.out]; rfl, ((HBW.out.alloc (by omega) _).alloc (by simp; omega) _).drew⟩
        · have hr' : (r0 i == r1 j) = false := by simpa using hr
          have er : ¬ r0 i = r1 j := by simpa using hr
          have HS : Hid (cmpR (pre r0 s0 n0) (pre r1 s1 n1) = sg (r0 i) (r1 j)) := by unfold Hid; rw [hC.out, HD.out, if_neg er]
          clear hr er
          go_wp2_with fail
          go_region
          all_goals
            go_wp2_with fail
            refine (cmp64_any _ _ _).mono ?_
            rintro e w2 ⟨rfl, rfl⟩
            go_wp2_with fail
            go_ret
            exact ⟨by rw [HS.out]; rfl, ((HBW.out.alloc (by omega) _).alloc (by simp; omega) _).drew⟩
end Go.Proofs.Qxb6630560a
