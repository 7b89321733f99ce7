/-
  SEAT b6630560a. THE PROOF OF 'Rows.FnCompareRespectsInclusionAndIsAntisymmetricSaid': the tool's shell for the row, the walk filled in.
-/
import Derived.Test.Qxb6630560aCompare
import Derived.Test.Qxb6630560aIncl
import Derived.WalkKit
import Derived.ProofKit
import Derived.OpenShut
import Derived.ShutString
import Derived.ChangeOld
import Derived.Below
namespace Go.Proofs.Qxb6630560a.fnCompareRespectsInclusionAndIsAntisymmetric
open Go.ChangeShapes Go.WideShapes Go.ChangeAt Go.RowKit
open Go.ChangeMaps (open_string shut_string)
set_option linter.unusedVariables false

theorem own : ownKnob Try.prog.godebug = none := by kernel_rfl
theorem laidOut : laidOutB Try.prog = true := by kernel_rfl

/-- WHAT THE WALK IS TOLD OF A SLICE OF INTEGERS THAT CAME IN: it is nil; or it leads to a row of 'cap' cells, the numbers 'zs' (the first 'len' are its elements, the rest its spare room), each fitting its kind. -/
def IsRow (k : IntKind) (w : World) (a : Option Addr) (len cap : Nat) (zs : List Int) : Prop :=
  (a = none ∧ len = 0 ∧ cap = 0 ∧ zs = []) ∨
  ∃ x, a = some x ∧ len ≤ cap ∧ cap ≤ maxLen ∧ zs.length = cap ∧ (∀ i, i < zs.length → w.cell? (x.add i) = some (.int k (zs.getD i 0))) ∧ ∀ n ∈ zs, (Lit.int k n).wf = true

theorem row_of {w : World} {a : Option Addr} {len cap : Nat} {zs : List Int} (h : IsRow .u64 w a len cap zs) : (len : Int) ≤ 9223372036854775807 ∧ ∃ b off, Row w a len b off (fun i => zs.getD i 0) := by
  rcases h with ⟨rfl, rfl, rfl, rfl⟩ | ⟨x, rfl, h1, h2, h3, h4, h5⟩
  · exact ⟨by omega, 0, 0, Or.inl rfl, fun i hi => by omega, fun i hi => by omega⟩
  · have hm : (len : Int) ≤ 9223372036854775807 := by unfold maxLen at h2; omega
    refine ⟨hm, ?_⟩
    by_cases hl : len = 0
    · subst hl
      exact ⟨0, 0, Or.inl rfl, fun i hi => by omega, fun i hi => by omega⟩
    · obtain ⟨b, off, rfl, hc⟩ := ints_at h4 (by omega)
      refine ⟨b, off, Or.inr rfl, fun i hi => hc i (by omega), fun i hi => ?_⟩
      have hi' : i < zs.length := by omega
      have := h5 (zs.getD i 0) (by rw [List.getD_eq_getElem?_getD, List.getElem?_eq_getElem hi']; exact List.getElem_mem hi')
      exact (bounds_u64 this).1

set_option maxHeartbeats 1600000 in
/-- A slice is too long: the law lets it through. -/
theorem walk_big (a0 a1 a2 a3 : Option Addr) (n0 n1 n2 n3 c0 c1 c2 c3 : Nat) (w : World) (m0 : (n0 : Int) ≤ 9223372036854775807) (m1 : (n1 : Int) ≤ 9223372036854775807) (m2 : (n2 : Int) ≤ 9223372036854775807) (m3 : (n3 : Int) ≤ 9223372036854775807)
    (h : 32768 < n0 ∨ (n0 ≤ 32768 ∧ 32768 < n1) ∨ (n0 ≤ 32768 ∧ n1 ≤ 32768 ∧ 32768 < n2) ∨ (n0 ≤ 32768 ∧ n1 ≤ 32768 ∧ n2 ≤ 32768 ∧ 32768 < n3)) :
    Calls Try.prog 4 #[.slice a0 n0 c0, .slice a1 n1 c1, .slice a2 n2 c2, .slice a3 n3 c3] w fun e w' => e = .returned (.bool true) ∧ Below w.heap.size w w' := by
  rcases h with g0 | ⟨g0, g1⟩ | ⟨g0, g1, g2⟩ | ⟨g0, g1, g2, g3⟩
  all_goals
    go_enter Try.func4, Try.ntmps4
    go_wp2_with fail
    refine (bytes10_any a0 a1 a2 a3 n0 n1 n2 n3 c0 c1 c2 c3 w m0 m1 m2 m3).mono ?_
    rintro e w1 ⟨r, rfl, rfl⟩
    cases r
    · go_wp2
      go_ret
      exact ⟨rfl, Below.refl _ _⟩
    · go_wp2
      go_ret
      exact ⟨rfl, Below.refl _ _⟩

set_option maxHeartbeats 3200000 in
set_option maxRecDepth 100000 in
/-- All four are short. -/
theorem walk_short (a0 a1 a2 a3 : Option Addr) (n0 n1 n2 n3 c0 c1 c2 c3 b0 b1 b2 b3 o0 o1 o2 o3 : Nat) (r0 s0 r1 s1 : Nat → Int) (w : World)
    (h0 : Hid (Row w a0 n0 b0 o0 r0)) (h1 : Hid (Row w a1 n1 b1 o1 s0)) (h2 : Hid (Row w a2 n2 b2 o2 r1)) (h3 : Hid (Row w a3 n3 b3 o3 s1)) (hn0 : n0 ≤ 32768) (hn1 : n1 ≤ 32768) (hn2 : n2 ≤ 32768) (hn3 : n3 ≤ 32768) :
    Calls Try.prog 4 #[.slice a0 n0 c0, .slice a1 n1 c1, .slice a2 n2 c2, .slice a3 n3 c3] w fun e w' => e = .returned (.bool true) ∧ Below w.heap.size w w' := by
  go_enter Try.func4, Try.ntmps4
  go_wp2_with fail
  refine (bytes10_any a0 a1 a2 a3 n0 n1 n2 n3 c0 c1 c2 c3 w (by omega) (by omega) (by omega) (by omega)).mono ?_
  rintro e w1 ⟨r, rfl, rfl⟩
  cases r
  · go_wp2
    go_ret
    exact ⟨rfl, Below.refl _ _⟩
  · go_wp2_with fail
    refine (valid_any a0 a1 n0 n1 c0 c1 b0 b1 o0 o1 r0 s0 _ h0 h1 hn0).mono ?_
    rintro e w2 ⟨r, rfl, ⟨q, rfl⟩, hv⟩
    cases r
    · clear hv
      go_wp2
      go_ret
      exact ⟨rfl, below_drewN (Below.refl _ _) _⟩
    · obtain ⟨en, hV⟩ := hv rfl
      have HV : Hid (Valid r0 s0 n0) := hV
      clear hv hV
      subst en
      go_wp2_with fail
      refine (valid_any a2 a3 n2 n3 c2 c3 b2 b3 o2 o3 r1 s1 _ (h2.out.kept (below_drewN (Below.refl _ _) _)) (h3.out.kept (below_drewN (Below.refl _ _) _)) hn2).mono ?_
      rintro e w3 ⟨r, rfl, ⟨q', rfl⟩, hv⟩
      cases r
      · clear hv
        go_wp2
        go_ret
        exact ⟨rfl, below_drewN (Below.refl _ _) _⟩
      · obtain ⟨en, hO⟩ := hv rfl
        have HO : Hid (Valid r1 s1 n2) := hO
        clear hv hO
        subst en
        go_wp2_with fail
        obtain ⟨X, hX⟩ : ∃ X, X = w1.drewN (q + q') := ⟨_, rfl⟩
        rw [← hX]
        have bX : Below w1.heap.size w1 X := by rw [hX]; exact below_drewN (Below.refl _ _) _
        clear hX
        refine (build_any a0 a1 n0 c0 c1 b0 b1 o0 o1 r0 s0 X (h0.out.kept bX) (h1.out.kept bX) hn0).mono ?_
        rintro e Y ⟨g, C, rfl, bY, hg, hC, hD⟩
        have HY : Hid (Held Y g n0 r0 s0) := ⟨C, hC, hD⟩
        have b1Y : Below w1.heap.size w1 Y := bX.trans (bY.mono bX.size)
        clear hC hD hg bY
        go_wp2_with fail
        have bZ : Below w1.heap.size w1 (Y.alloc (.cells #[.slice (some ⟨g, 0, none⟩) n0 n0] 27)) := b1Y.alloc b1Y.size _
        refine (build_any a2 a3 n2 c2 c3 b2 b3 o2 o3 r1 s1 _ (h2.out.kept bZ) (h3.out.kept bZ) hn2).mono ?_
        rintro e Y2 ⟨g2, C2, rfl, bY2, hg2, hC2, hD2⟩
        have HY2 : Hid (Held Y2 g2 n2 r1 s1) := ⟨C2, hC2, hD2⟩
        have hz2 : Y.heap.size < Y2.heap.size := by have := bY2.size; simp at this; omega
        have HYY : Hid (Held Y2 g n0 r0 s0) := HY.out.kept (B := Y.heap.size) (((Below.refl _ Y).alloc (Nat.le_refl _) _).trans (bY2.mono (by simp))) HY.out.lt
        have cY : Y2.cell? ⟨Y.heap.size, 0, none⟩ = some (.slice (some ⟨g, 0, none⟩) n0 n0) := by rw [bY2.cell (p := ⟨Y.heap.size, 0, none⟩) (by simp)]; go_simp
        have b1Y2 : Below w1.heap.size w1 Y2 := bZ.trans (bY2.mono bZ.size)
        clear hC2 hD2 hg2 bY2
        go_wp2_with fail
        have bV : Below w1.heap.size w1 (Y2.alloc (.cells #[.slice (some ⟨g2, 0, none⟩) n2 n2] 27)) := b1Y2.alloc b1Y2.size _
        refine (compare_any g g2 n0 n2 r0 s0 r1 s1 _ (HYY.out.kept ((Below.refl Y2.heap.size Y2).alloc (Nat.le_refl _) _) HYY.out.lt) (HY2.out.kept ((Below.refl Y2.heap.size Y2).alloc (Nat.le_refl _) _) HY2.out.lt) hn0 hn2).mono ?_
        rintro e V ⟨rfl, bV2⟩
        have b1V : Below w1.heap.size w1 V := bV.trans (bV2.mono bV.size)
        have hz3 : Y2.heap.size < V.heap.size := by have := bV2.size; simp at this; omega
        have hz4 : Y.heap.size < V.heap.size := by omega
        have cV : V.cell? ⟨Y.heap.size, 0, none⟩ = some (.slice (some ⟨g, 0, none⟩) n0 n0) := by rw [bV2.cell (p := ⟨Y.heap.size, 0, none⟩) (by simp; omega), Below.cell (((Below.refl Y2.heap.size Y2).alloc (Nat.le_refl _) _)) (p := ⟨Y.heap.size, 0, none⟩) hz2]; exact cY
        have cV2 : V.cell? ⟨Y2.heap.size, 0, none⟩ = some (.slice (some ⟨g2, 0, none⟩) n2 n2) := by rw [bV2.cell (p := ⟨Y2.heap.size, 0, none⟩) (by simp)]; go_simp
        have b22 : Below Y2.heap.size Y2 V := ((Below.refl Y2.heap.size Y2).alloc (Nat.le_refl _) _).trans (bV2.mono (by simp))
        have HV0 : Hid (Held V g n0 r0 s0) := HYY.out.kept b22 HYY.out.lt
        have HV1 : Hid (Held V g2 n2 r1 s1) := HY2.out.kept b22 HY2.out.lt
        clear bV2 b22 cY
        go_wp2_with fail
        refine (compare_any g2 g n2 n0 r1 s1 r0 s0 _ HV1 HV0 hn2 hn0).mono ?_
        rintro e U ⟨rfl, bU⟩
        have b1U : Below w1.heap.size w1 U := b1V.trans (bU.mono b1V.size)
        clear bU cV cV2
        have hrange := cmpR_range (pre r0 s0 n0) (pre r1 s1 n2)
        have hanti := cmpR_anti (pre r1 s1 n2) (pre r0 s0 n0)
        rw [hanti]
        clear hanti
        obtain ⟨x, hx⟩ : ∃ x, x = cmpR (pre r0 s0 n0) (pre r1 s1 n2) := ⟨_, rfl⟩
        rw [← hx] at hrange ⊢
        have HX : Hid (x = cmpR (pre r0 s0 n0) (pre r1 s1 n2)) := hx
        clear hx
        obtain ⟨p1, p2⟩ := hrange
        have hs0 : (x + -x != 0) = false := by simp; omega
        have hs1 : decide (x < -1) = false := by simp; omega
        have hs2 : decide (1 < x) = false := by simp; omega
        go_wp2_with fail
        refine (incl_any a0 a1 a2 a3 n0 n2 c0 c1 c2 c3 b0 b1 b2 b3 o0 o1 o2 o3 r0 s0 r1 s1 _ (h0.out.kept b1U) (h1.out.kept b1U) (h2.out.kept b1U) (h3.out.kept b1U) hn0 hn2 HV HO).mono ?_
        rintro e U2 ⟨sub, rfl, ⟨q3, rfl⟩, hsub⟩
        have HSUB : Hid (sub = true ↔ Incl r0 s0 n0 r1 s1 n2) := hsub
        clear hsub
        go_wp2_with fail
        have b1U2 : Below w1.heap.size w1 (U.drewN q3) := below_drewN b1U _
        refine (incl_any a2 a3 a0 a1 n2 n0 c2 c3 c0 c1 b2 b3 b0 b1 o2 o3 o0 o1 r1 s1 r0 s0 _ (h2.out.kept b1U2) (h3.out.kept b1U2) (h0.out.kept b1U2) (h1.out.kept b1U2) hn2 hn0 HO HV).mono ?_
        rintro e U3 ⟨sup, rfl, ⟨q4, rfl⟩, hsup⟩
        have HLAW := inclusion_law HV.out HO.out HSUB.out hsup
        rw [← HX.out] at HLAW
        have HL : Hid ((sub = true → sup = true → x = 0) ∧ (sub = true → sup = false → x = 1) ∧ (sub = false → sup = true → x = -1) ∧ (sub = false → sup = false → x = 1 ∨ x = -1)) := HLAW
        clear HLAW hsup
        cases sub <;> cases sup
        · have hl := HL.out.2.2.2 rfl rfl
          clear HL
          rcases hl with rfl | rfl
          · go_wp2_with fail
            go_ret
            exact ⟨rfl, below_drewN b1U _⟩
          · go_wp2_with fail
            go_ret
            exact ⟨rfl, below_drewN b1U _⟩
        · obtain rfl := HL.out.2.2.1 rfl rfl
          clear HL
          go_wp2_with fail
          go_ret
          exact ⟨rfl, below_drewN b1U _⟩
        · obtain rfl := HL.out.2.1 rfl rfl
          clear HL
          go_wp2_with fail
          go_ret
          exact ⟨rfl, below_drewN b1U _⟩
        · obtain rfl := HL.out.1 rfl rfl
          clear HL
          go_wp2_with fail
          go_ret
          exact ⟨rfl, below_drewN b1U _⟩

theorem walk (a0 : Option Addr) (len0 cap0 : Nat) (z0 : List Int) (a1 : Option Addr) (len1 cap1 : Nat) (z1 : List Int) (a2 : Option Addr) (len2 cap2 : Nat) (z2 : List Int) (a3 : Option Addr) (len3 cap3 : Nat) (z3 : List Int) (w : World) (w0 : IsRow .u64 w a0 len0 cap0 z0) (w1 : IsRow .u64 w a1 len1 cap1 z1) (w2 : IsRow .u64 w a2 len2 cap2 z2) (w3 : IsRow .u64 w a3 len3 cap3 z3) :
    Calls Try.prog 4 #[.slice a0 len0 cap0, .slice a1 len1 cap1, .slice a2 len2 cap2, .slice a3 len3 cap3] w fun e w' => e = .returned (.bool true) ∧ Below w.heap.size w w' := by
  obtain ⟨m0, b0, o0, h0⟩ := row_of w0
  obtain ⟨m1, b1, o1, h1⟩ := row_of w1
  obtain ⟨m2, b2, o2, h2⟩ := row_of w2
  obtain ⟨m3, b3, o3, h3⟩ := row_of w3
  by_cases h : len0 ≤ 32768 ∧ len1 ≤ 32768 ∧ len2 ≤ 32768 ∧ len3 ≤ 32768
  · exact walk_short a0 a1 a2 a3 len0 len1 len2 len3 cap0 cap1 cap2 cap3 b0 b1 b2 b3 o0 o1 o2 o3 _ _ _ _ w h0 h1 h2 h3 h.1 h.2.1 h.2.2.1 h.2.2.2
  · exact walk_big a0 a1 a2 a3 len0 len1 len2 len3 cap0 cap1 cap2 cap3 w m0 m1 m2 m3 (by omega)

/-! ### THE ROW's STEP: WRITTEN OUT: LEAVE IT -/
set_option maxRecDepth 100000 in
theorem lifted (os : Os) (started : os.Started) (H : Type) (enc : TypeId × Value → H) :
    ReturnsInHanded {} Try.checked os 4 .any (Rows.fnCompareRespectsInclusionAndIsAntisymmetricSpec.pre6 enc Try.prog Try.f4 Rows.fnCompareRespectsInclusionAndIsAntisymmetricRow.domain false) (Rows.fnCompareRespectsInclusionAndIsAntisymmetricSpec.post enc Try.prog Try.f4 false true false false) := by
  refine returnsInHanded_of_change (C := Try.checked) own started (by kernel_rfl) Try.func4
    (ChangeSpec.witness6 (enc := enc) (C := Try.checked) false ⟨#[], #[.slice none 0 0, .slice none 0 0, .slice none 0 0, .slice none 0 0], []⟩ 8 (by kernel_rfl) (by kernel_rfl) (by kernel_rfl) (by kernel_rfl)) ?_
  intro W base args ds gs before hval0 hW hcnd _
  have hval : ∀ (j : Nat) t v, Try.f4.params[j]? = some t → args[j]? = some v → Value.okWide Try.prog W .any base t v := hval0
  have hW' := hW
  obtain ⟨p, q, hA0, hV, rfl, hfz, hnd⟩ := hW
  have hA : DataW.TrodAll enc Try.prog W 0 (fun _ => true) true Try.f4.params.toList args.toList ds p := hA0
  rw [Try.params4] at hA hval
  obtain ⟨v0, vs0, d0, ds0, p0, q0, hargs, rfl, rfl, h0, r0⟩ := trodAll_cons hA
  obtain ⟨v1, vs1, d1, ds1, p1, q1, rfl, rfl, rfl, h1, r1⟩ := trodAll_cons r0
  obtain ⟨v2, vs2, d2, ds2, p2, q2, rfl, rfl, rfl, h2, r2⟩ := trodAll_cons r1
  obtain ⟨v3, vs3, d3, ds3, p3, q3, rfl, rfl, rfl, h3, r3⟩ := trodAll_cons r2
  obtain ⟨rfl, rfl, rfl⟩ := trodAll_nil r3
  obtain rfl : args = #[v0, v1, v2, v3] := by cases args; simp_all
  obtain ⟨rfl, rfl⟩ := trodVars_none hV
  obtain ⟨a0, len0, cap0, rfl⟩ := okWide_slice Try.underlying22 (hval 0 22 v0 rfl rfl)
  have k0 := h0
  have lt0 : ∀ x ∈ p0, x.block < W.heap.size := by obtain ⟨m, hm⟩ := k0; exact DataW.trod_lt m _ _ _ hm
  obtain ⟨z0, w0⟩ : ∃ zs, IsRow .u64 W a0 len0 cap0 zs := by
    obtain ⟨fuel, hf⟩ := h0
    rcases open_ints Try.underlying22 Try.underlying31 (by kernel_rfl) hf with ⟨hcs, _⟩ | ⟨x, l, c, zs, hcs, _, hl, hm, hz, _, hcell, hwz⟩
    · simp [Value.cells] at hcs
      obtain ⟨rfl, rfl, rfl⟩ := hcs
      exact ⟨[], .inl ⟨rfl, rfl, rfl, rfl⟩⟩
    · simp [Value.cells] at hcs
      obtain ⟨rfl, rfl, rfl⟩ := hcs
      exact ⟨zs, .inr ⟨_, rfl, hl, hm, by simpa using hz, hcell, hwz⟩⟩
  obtain ⟨a1, len1, cap1, rfl⟩ := okWide_slice Try.underlying22 (hval 1 22 v1 rfl rfl)
  have k1 := h1
  have lt1 : ∀ x ∈ p1, x.block < W.heap.size := by obtain ⟨m, hm⟩ := k1; exact DataW.trod_lt m _ _ _ hm
  obtain ⟨z1, w1⟩ : ∃ zs, IsRow .u64 W a1 len1 cap1 zs := by
    obtain ⟨fuel, hf⟩ := h1
    rcases open_ints Try.underlying22 Try.underlying31 (by kernel_rfl) hf with ⟨hcs, _⟩ | ⟨x, l, c, zs, hcs, _, hl, hm, hz, _, hcell, hwz⟩
    · simp [Value.cells] at hcs
      obtain ⟨rfl, rfl, rfl⟩ := hcs
      exact ⟨[], .inl ⟨rfl, rfl, rfl, rfl⟩⟩
    · simp [Value.cells] at hcs
      obtain ⟨rfl, rfl, rfl⟩ := hcs
      exact ⟨zs, .inr ⟨_, rfl, hl, hm, by simpa using hz, hcell, hwz⟩⟩
  obtain ⟨a2, len2, cap2, rfl⟩ := okWide_slice Try.underlying22 (hval 2 22 v2 rfl rfl)
  have k2 := h2
  have lt2 : ∀ x ∈ p2, x.block < W.heap.size := by obtain ⟨m, hm⟩ := k2; exact DataW.trod_lt m _ _ _ hm
  obtain ⟨z2, w2⟩ : ∃ zs, IsRow .u64 W a2 len2 cap2 zs := by
    obtain ⟨fuel, hf⟩ := h2
    rcases open_ints Try.underlying22 Try.underlying31 (by kernel_rfl) hf with ⟨hcs, _⟩ | ⟨x, l, c, zs, hcs, _, hl, hm, hz, _, hcell, hwz⟩
    · simp [Value.cells] at hcs
      obtain ⟨rfl, rfl, rfl⟩ := hcs
      exact ⟨[], .inl ⟨rfl, rfl, rfl, rfl⟩⟩
    · simp [Value.cells] at hcs
      obtain ⟨rfl, rfl, rfl⟩ := hcs
      exact ⟨zs, .inr ⟨_, rfl, hl, hm, by simpa using hz, hcell, hwz⟩⟩
  obtain ⟨a3, len3, cap3, rfl⟩ := okWide_slice Try.underlying22 (hval 3 22 v3 rfl rfl)
  have k3 := h3
  have lt3 : ∀ x ∈ p3, x.block < W.heap.size := by obtain ⟨m, hm⟩ := k3; exact DataW.trod_lt m _ _ _ hm
  obtain ⟨z3, w3⟩ : ∃ zs, IsRow .u64 W a3 len3 cap3 zs := by
    obtain ⟨fuel, hf⟩ := h3
    rcases open_ints Try.underlying22 Try.underlying31 (by kernel_rfl) hf with ⟨hcs, _⟩ | ⟨x, l, c, zs, hcs, _, hl, hm, hz, _, hcell, hwz⟩
    · simp [Value.cells] at hcs
      obtain ⟨rfl, rfl, rfl⟩ := hcs
      exact ⟨[], .inl ⟨rfl, rfl, rfl, rfl⟩⟩
    · simp [Value.cells] at hcs
      obtain ⟨rfl, rfl, rfl⟩ := hcs
      exact ⟨zs, .inr ⟨_, rfl, hl, hm, by simpa using hz, hcell, hwz⟩⟩
  clear hA0 hval0
  refine (walk a0 len0 cap0 z0 a1 len1 cap1 z1 a2 len2 cap2 z2 a3 len3 cap3 z3 W w0 w1 w2 w3).mono fun e W' ⟨he, bel⟩ => ?_
  subst he
  exact ⟨_, rfl, _, _, _, [], _, [], hW', trodAll_mk1 (shut_bool Try.underlying4 _), (trodAll_cons_mk (Below.trod laidOut (by kernel_rfl) (of_decide_eq_true (by kernel_rfl)) k0 bel lt0) (trodAll_cons_mk (Below.trod laidOut (by kernel_rfl) (of_decide_eq_true (by kernel_rfl)) k1 bel lt1) (trodAll_cons_mk (Below.trod laidOut (by kernel_rfl) (of_decide_eq_true (by kernel_rfl)) k2 bel lt2) (trodAll_cons_mk (Below.trod laidOut (by kernel_rfl) (of_decide_eq_true (by kernel_rfl)) k3 bel lt3) trodAll_mk0)))), rfl, bel.frame _, fun h => by cases h⟩

theorem over : Rows.fnCompareRespectsInclusionAndIsAntisymmetricRow.holds Try.pinned (OpenSpec.ofChange Rows.fnCompareRespectsInclusionAndIsAntisymmetricSpec) :=
  OpenClaim.holds_of_wide 4 Try.f4 rfl rfl rfl rfl rfl rfl rfl ⟨rfl, rfl, rfl, rfl, rfl⟩ rfl rfl rfl rfl rfl (by kernel_rfl) Try.func4 (by kernel_rfl)
    (of_decide_eq_true (by kernel_rfl)) (by unfold Func.isWrapper; first | (rw [if_pos (by decide +kernel)]; kernel_rfl) | (rw [if_neg (by decide +kernel)]; exact ⟨rfl, rfl⟩))
    (fun os started H enc _ => lifted os started H enc)

/-- ████ THE STATEMENT ████ -/
theorem proved : Rows.FnCompareRespectsInclusionAndIsAntisymmetricSaid := over
#print axioms proved
end Go.Proofs.Qxb6630560a.fnCompareRespectsInclusionAndIsAntisymmetric
