/-
  SEAT b6625994a. THE WALK OF FnTakeDrainsAtAnyCut (function 4).
-/
import Derived.Test.Qxb6625994aKeep
import Derived.Deep.RegionWith
import Derived.Deep.RegionHeld3
import Derived.Deep.CutRange
import Derived.Deep.DeepCutAuto
namespace Go.Proofs.Qxb6625994a
open Go Go.RowKit

theorem wrap_id (t : Nat) (h : t ≤ 1048576) : IntKind.i64.wrap (t : Int) = (t : Int) := by
  simp [IntKind.wrap, IntKind.bits, IntKind.signed]
  omega

set_option maxRecDepth 100000 in
set_option maxHeartbeats 12800000 in
theorem law4 (a0 a1 : Option Addr) (n m c0 c1 b0 b1 o0 o1 N : Nat) (s : Nat → ByteArray) (L : Nat → Nat) (z : Nat → Nat → Int) (K : Int) (w : World)
    (h0 : Hid (Row w a0 n b0 o0 fun i => .string (s i))) (h1 : Hid (Docs w a1 m b1 o1 L z)) (hnil0 : Hid (a0 = none → n = 0 ∧ c0 = 0)) (hnil1 : Hid (a1 = none → m = 0 ∧ c1 = 0))
    (hn : Hid ((n : Int) ≤ 9223372036854775807)) (hm : Hid ((m : Int) ≤ 9223372036854775807)) (hN : Hid (N = min n m)) :
    Calls Try.prog 4 #[.slice a0 n c0, .slice a1 m c1, .int .i64 K] w fun e w' => e = .returned (.bool true) ∧ Below w.heap.size w w' := by
  go_enter Try.func4, Try.ntmps4
  go_wp2_with fail
  refine (bytes17_any a0 a1 n m c0 c1 b0 b1 o0 o1 s L z K w h0 h1 hn hm).mono ?_
  rintro e w ⟨rfl, r, rfl, hr⟩
  cases r
  · go_wp2
    go_ret
    exact ⟨rfl, Below.refl _ _⟩
  · have hS : Hid (Small s L n m) := hr rfl
    clear hr
    have hn2 : n ≤ 1048576 := hS.out.1
    have hm2 : m ≤ 1048576 := hS.out.2.1
    by_cases hbn : 65536 < (n : Int)
    · go_wp2
      go_ret
      exact ⟨rfl, Below.refl _ _⟩
    · have hbn' : decide (65536 < (n : Int)) = false := by simpa using hbn
      by_cases hbm : 65536 < (m : Int)
      · go_wp2
        go_ret
        exact ⟨rfl, Below.refl _ _⟩
      · have hbm' : decide (65536 < (m : Int)) = false := by simpa using hbm
        go_wp2
        go_loop [7, 8] (fun t7 t8 => ∃ (k : Nat) (x : Int), k ≤ n ∧ 0 ≤ x ∧ x ≤ 1048576 ∧ t8 = .int .i64 (k : Int) ∧ t7 = .int .i64 x) (fun _ t8 => n - (intOf t8).toNat)
        case atStart => exact ⟨0, 0, by omega, by omega, by omega, rfl, rfl⟩
        case round =>
          obtain ⟨k, x, hk, hx0, hx1, rfl, rfl⟩ := hrel
          by_cases hlt : k < n
          · have i1 := h0.out.index22 c0 k (k : Int) rfl hlt
            have e1 := h0.out.2 k hlt
            have z1 := hS.out.2.2.1 k hlt
            by_cases h2 : 1048576 < x + (16 + ((s k).size : Int))
            · go_wp2
              go_ret
              exact ⟨rfl, Below.refl _ _⟩
            · have h2' : decide (1048576 < x + (16 + ((s k).size : Int))) = false := by simpa using h2
              go_wp2
              go_round
              case rel => exact ⟨k + 1, _, by omega, by omega, by omega, by go_num, rfl⟩
              case measure => simp [intOf]; omega
          · go_wp2
            go_loop [7, 9] (fun t7 t9 => ∃ (j : Nat) (y : Int), j ≤ m ∧ (tot L 0 j : Int) ≤ y ∧ y ≤ 1048576 ∧ t9 = .int .i64 (j : Int) ∧ t7 = .int .i64 y) (fun _ t9 => m - (intOf t9).toNat)
            case atStart => exact ⟨0, x, by omega, by simp [tot]; omega, hx1, rfl, rfl⟩
            case round =>
              obtain ⟨j, y, hj, hy0, hy1, rfl, rfl⟩ := hrel
              by_cases hjl : j < m
              · have i2 := index23 h1.out.1 c1 j (j : Int) rfl hjl
                obtain ⟨v, e2, da, dc, db, doff, rfl, _, _⟩ := h1.out.2 j hjl
                have z2 := hS.out.2.2.2 j hjl
                have hy2 : 0 ≤ y := by omega
                have HY : Hid ((tot L 0 j : Int) ≤ y) := hy0
                clear hy0
                by_cases h2 : 1048576 < y + (24 + (L j : Int))
                · go_wp2
                  go_ret
                  exact ⟨rfl, Below.refl _ _⟩
                · have h2' : decide (1048576 < y + (24 + (L j : Int))) = false := by simpa using h2
                  go_wp2
                  go_round
                  case rel => exact ⟨j + 1, _, by omega, by have := HY.out; simp only [tot, Nat.zero_add]; omega, by omega, by go_num, rfl⟩
                  case measure => simp [intOf]; omega
              · obtain rfl : m = j := by omega
                obtain rfl : n = k := by omega
                have HT : Hid (tot L 0 m ≤ 1048576) := by unfold Hid; omega
                clear hy0 hy1
                go_upto_if 72 with fail
                go_cut [10] (fun t10 wx => t10 = .int .i64 (N : Int) ∧ w = wx)
                case first =>
                  by_cases hmn : (m : Int) < (n : Int)
                  · have e10 : (N : Int) = (m : Int) := by have := hN.out; omega
                    go_wp2_with fail
                    go_meet
                    exact ⟨by rw [e10], rfl⟩
                  · have e10 : (N : Int) = (n : Int) := by have := hN.out; omega
                    have hmn' : decide ((m : Int) < (n : Int)) = false := by simpa using hmn
                    go_wp2_with fail
                    go_meet
                    exact ⟨by rw [e10], rfl⟩
                case rest =>
                  obtain ⟨rfl, rfl⟩ := hcut
                  have hNn : N ≤ n := by have := hN.out; omega
                  have hNm : N ≤ m := by have := hN.out; omega
                  by_cases hK0 : K < 0
                  · go_wp2
                    go_ret
                    exact ⟨rfl, Below.refl _ _⟩
                  have hK0' : decide (K < 0) = false := by simpa using hK0
                  by_cases hK1 : (N : Int) < K
                  · go_wp2
                    go_ret
                    exact ⟨rfl, Below.refl _ _⟩
                  obtain ⟨kk, rfl⟩ : ∃ kk : Nat, K = (kk : Int) := ⟨K.toNat, by omega⟩
                  have hkN : kk ≤ N := by omega
                  have hK1' : decide ((N : Int) < (kk : Int)) = false := by simpa using hK1
                  clear hK0 hK1
                  go_wp2_with fail
                  refine (clone6_any a0 n c0 b0 o0 s _ h0.out (by omega) hnil0.out).mono ?_
                  rintro e w1 ⟨bel1, a2, c2, b2, rfl, r2, -, nil2⟩
                  have H1 : Hid (Below w.heap.size w w1 ∧ Row w1 a2 n b2 0 (fun i => .string (s i)) ∧ (a2 = none → n = 0 ∧ c2 = 0) ∧ Docs w1 a1 m b1 o1 L z) := ⟨bel1, r2, nil2, h1.out.kept (Nat.le_refl _) bel1⟩
                  clear bel1 r2 nil2
                  go_wp2_with fail
                  refine (clone7_any a1 m c1 b1 o1 L z _ H1.out.2.2.2 (by omega) hS.out.2.2.2 hnil1.out).mono ?_
                  rintro e w2 ⟨bel2, a3, c3, b3, rfl, d3, nil3⟩
                  have H2 : Hid (Below w.heap.size w w2 ∧ Row w2 a2 n b2 0 (fun i => .string (s i)) ∧ Docs w2 a3 m b3 0 L z ∧ (a3 = none → m = 0 ∧ c3 = 0)) := ⟨H1.out.1.trans (bel2.mono H1.out.1.size), H1.out.2.1.kept (Nat.le_refl _) bel2, d3, nil3⟩
                  clear bel2 d3 nil3
                  go_wp2_with fail
                  refine (clone6_any a2 n c2 b2 0 s _ H2.out.2.1 (by omega) H1.out.2.2.1).mono ?_
                  rintro e w3 ⟨bel3, a4, c4, b4, rfl, r4, -, -⟩
                  have H3 : Hid (Below w.heap.size w w3 ∧ Row w3 a2 n b2 0 (fun i => .string (s i)) ∧ Docs w3 a3 m b3 0 L z ∧ Row w3 a4 n b4 0 (fun i => .string (s i))) := ⟨H2.out.1.trans (bel3.mono H2.out.1.size), H2.out.2.1.kept (Nat.le_refl _) bel3, H2.out.2.2.1.kept (Nat.le_refl _) bel3, r4⟩
                  clear bel3 r4
                  go_wp2_with fail
                  refine (clone7_any a3 m c3 b3 0 L z _ H3.out.2.2.1 (by omega) hS.out.2.2.2 H2.out.2.2.2).mono ?_
                  rintro e w4 ⟨bel4, a5, c5, b5, rfl, d5, -⟩
                  have H4 : Hid (Below w.heap.size w w4 ∧ Copies w4 a2 a3 a4 a5 b2 b3 b4 b5 n m s L z) := ⟨H3.out.1.trans (bel4.mono H3.out.1.size), H3.out.2.1.kept (Nat.le_refl _) bel4, H3.out.2.2.1.kept (Nat.le_refl _) bel4, H3.out.2.2.2.kept (Nat.le_refl _) bel4, d5⟩
                  clear bel4 d5 H1 H2 H3
                  go_wp2_with fail
                  refine (new_any false _).mono ?_
                  rintro e w5 ⟨bel5, S, rfl, hqS, hsub, hsz⟩
                  have H5 : Hid (Waits w4 w5 S none 0 0 0 0 false [] 0 s L z) := ⟨hsub, World.ownsRow_nil _ _ _ _, bel5, fun i hi => by omega⟩
                  have HQ : Hid (w4.heap.size ≤ S) := hqS
                  clear bel5 hsub hqS hsz
                  go_wp2_with fail
                  clear hn2 hm2 hbn' hbm' hx0 hx1 hK0' hK1'
                  go_loopw [14] (fun t14 wr => ∃ (k : Nat) (x : Int) (a : Option Addr) (c : Nat) (xs : List Value), k ≤ kk ∧ 0 ≤ x ∧ x ≤ 1048576 ∧ Hid (x = ((tot L 0 k : Nat) : Int)) ∧ Hid (Waits w4 wr S a k c x (k : Int) false xs 0 s L z) ∧ t14 = .int .i64 (k : Int)) (fun t14 _ => kk - (intOf t14).toNat)
                  case atStart => exact ⟨0, 0, none, 0, [], by omega, by omega, by omega, rfl, H5, rfl⟩
                  case round =>
                    obtain ⟨k, x, a, c, xs, hk, hx0, hx1, hX, hW, rfl⟩ := hrel
                    by_cases hkl : k < kk
                    · have i1 := H4.out.2.names.index22 c2 k (k : Int) rfl (by omega)
                      have e1 : wr.cell? ⟨b2, 0 + k, none⟩ = some (.string (s k)) := by
                        have := H4.out.2.names.2 k (by omega)
                        rw [hW.out.below.cell (block_lt_of_cell this)]
                        exact this
                      have i2 := index23 H4.out.2.docs.1 c3 k (k : Int) rfl (by omega)
                      obtain ⟨v, e2', da, dc, db, doff, rfl, hd1, hd2⟩ := H4.out.2.docs.2 k (by omega)
                      have HD : Hid (Doc w4 (.slice da (L k) dc) (L k) (z k)) := ⟨da, dc, db, doff, rfl, hd1, hd2⟩
                      have e2 : wr.cell? ⟨b3, 0 + k, none⟩ = some (.slice da (L k) dc) := by
                        rw [hW.out.below.cell (block_lt_of_cell e2')]
                        exact e2'
                      clear e2' hd1 hd2
                      have i3 := index23 H4.out.2.wdocs.1 c5 k (k : Int) rfl (by omega)
                      obtain ⟨v, e3', da', dc', db', doff', rfl, -, -⟩ := H4.out.2.wdocs.2 k (by omega)
                      have HE3 : Hid (w4.cell? ⟨b5, 0 + k, none⟩ = some (.slice da' (L k) dc')) := e3'
                      clear e3'
                      have hLk := hS.out.2.2.2 k (by omega)
                      have hx2 : Hid (x + (L k : Int) ≤ 1048576) := by have h1 := hX.out; have h2 := tot_le L 0 (k + 1) m (by omega); have h3 := HT.out; simp only [tot, Nat.zero_add] at h2; unfold Hid; omega
                      simp only [Nat.zero_add] at i1 i2 i3 e1 e2 HE3
                      have hadd := add_waits w4 wr.drew S a k c x (k : Int) false xs 0 s L z k da dc ⟨b5, k, none⟩ (.slice da' (L k) dc') (Nat.zero_add k).symm (hW.out.same rfl rfl rfl rfl) HQ.out HD.out (by omega) hx0 (by omega) (by omega) (by omega) hLk HE3.out
                      go_wp2_with fail
                      go_region_with (go_at_call 9; refine hadd.mono ?_; rintro e w6 ⟨rfl, e3, H6⟩)
                      all_goals
                        clear hadd
                        go_wp2_with fail
                        go_roundw
                        case rel =>
                          obtain ⟨a', c', xs', h6⟩ := H6.out
                          exact ⟨k + 1, _, a', c', xs', by omega, by omega, hx2.out, by have := hX.out; show _ = _; simp only [tot, Nat.zero_add]; omega, h6, by go_num⟩
                        case measure => simp [intOf]; omega
                    · obtain rfl : kk = k := by omega
                      go_upto_if 107 with fail
                      go_cut [15, 16] (fun _ _ wx => Hid (∃ a c xs, Waits w4 wx S a 0 c 0 (kk : Int) false xs kk s L z))
                      case first =>
                        by_cases hk0 : 0 < (kk : Int)
                        · have hg : Hid (kk = 0 → false = true) := fun h => by omega
                          go_wp2_with fail
                          refine (take_any S a kk c x (kk : Int) false _ hW.out.sub hg).mono ?_
                          rintro e w7 ⟨rfl, hA, hS7⟩
                          have H7 : Hid (Sub w7 S none 0 0 0 (kk : Int) false ∧ w7.ownsRow (S + 1) 36 2 (.slice a kk c) kk xs ∧ Below w4.heap.size w4 w7) := ⟨hS7, hA.owns hW.out.own, hW.out.below.trans (hA.below.mono HQ.out)⟩
                          have HE : Hid (Entries w4 xs 0 kk s L z) := hW.out.ents
                          clear hA hS7 hW
                          go_wp2_with fail
                          go_loopw [16] (fun t16 wr => ∃ k : Nat, k ≤ kk ∧ Hid (Below w7.heap.size w7 wr) ∧ t16 = .int .i64 (k : Int)) (fun t16 _ => kk - (intOf t16).toNat)
                          case atStart => exact ⟨0, by omega, Below.refl _ _, rfl⟩
                          case round =>
                            obtain ⟨k, hk, hB, rfl⟩ := hrel
                            by_cases hkl : k < kk
                            · obtain ⟨g, hidx, hcell⟩ := index32 H7.out.2.1 (by omega)
                              have i1 := hidx k (k : Int) rfl (by omega)
                              obtain ⟨v, x1, x2, hdoc⟩ := HE.out k (by omega)
                              rw [Nat.zero_add] at x1 hdoc
                              obtain ⟨da, dc, db, doff, rfl, hd1, hd2⟩ := hdoc
                              have HD : Hid (Doc w4 (.slice da (L k) dc) (L k) (z k)) := ⟨da, dc, db, doff, rfl, hd1, hd2⟩
                              have f1 : wr.cell? ⟨g, k * 2, none⟩ = some (.string (s k)) := by
                                have := (hcell (k * 2) (by omega)).trans x1
                                rw [hB.out.cell (block_lt_of_cell this)]
                                exact this
                              have f2 : wr.cell? ⟨g, k * 2 + 1, none⟩ = some (.slice da (L k) dc) := by
                                have := (hcell (k * 2 + 1) (by omega)).trans x2
                                rw [hB.out.cell (block_lt_of_cell this)]
                                exact this
                              have b4r : Below w4.heap.size w4 wr := H7.out.2.2.trans (hB.out.mono H7.out.2.2.size)
                              have i2 := H4.out.2.wnames.index22 c4 k (k : Int) rfl (by omega)
                              have f3 : wr.cell? ⟨b4, 0 + k, none⟩ = some (.string (s k)) := by
                                have := H4.out.2.wnames.2 k (by omega)
                                rw [b4r.cell (block_lt_of_cell this)]
                                exact this
                              have i3 := index23 H4.out.2.wdocs.1 c5 k (k : Int) rfl (by omega)
                              obtain ⟨v, f4', da', dc', db', doff', rfl, hd1', hd2'⟩ := H4.out.2.wdocs.2 k (by omega)
                              have f4 : wr.cell? ⟨b5, 0 + k, none⟩ = some (.slice da' (L k) dc') := by
                                rw [b4r.cell (block_lt_of_cell f4')]
                                exact f4'
                              have hsame : ∀ W : World, W.heap = ((wr.alloc (.cells #[.string (s k), .slice da (L k) dc] 36)).alloc (.cells #[.string (s k), .slice da (L k) dc] 36)).heap → Calls Try.prog 13 #[.slice da (L k) dc, .slice da' (L k) dc'] W fun e w' => e = .returned (.bool true) ∧ ∃ q, w' = W.drewN q := fun W hW =>
                                same_docs ((b4r.alloc b4r.size _).alloc (Nat.le_trans b4r.size (by simp)) _) HD.out ⟨da', dc', db', doff', rfl, hd1', hd2'⟩ (hS.out.2.2.2 k (by omega)) hW
                              have HB2 : Hid (Below w7.heap.size w7 ((wr.alloc (.cells #[.string (s k), .slice da (L k) dc] 36)).alloc (.cells #[.string (s k), .slice da (L k) dc] 36))) := (hB.out.alloc hB.out.size _).alloc (Nat.le_trans hB.out.size (by simp)) _
                              simp only [Nat.zero_add] at i2 i3 f3 f4
                              have l1 := block_lt_of_cell f1
                              have l3 := block_lt_of_cell f3
                              have l4 := block_lt_of_cell f4
                              clear hidx hcell x1 x2 hd1 hd2 f4' hd1' hd2' b4r
                              go_wp2_with fail
                              go_region_held3 (fun w' => w'.cell? ⟨g, k * 2, none⟩ = some (.string (s k)) ∧ w'.cell? ⟨g, k * 2 + 1, none⟩ = some (.slice da (L k) dc) ∧ w'.cell? ⟨b4, k, none⟩ = some (.string (s k))) (go_keep) ((go_at_call 12; refine (name_any (s k) da (L k) dc _).mono ?_; rintro e w8 ⟨rfl, rfl⟩))
                              all_goals
                                go_wp2_with fail
                                go_region_held3 (fun w' => w'.cell? ⟨g, k * 2, none⟩ = some (.string (s k)) ∧ w'.cell? ⟨g, k * 2 + 1, none⟩ = some (.slice da (L k) dc) ∧ w'.cell? ⟨b5, k, none⟩ = some (.slice da' (L k) dc')) (go_keep) ((first | (go_at_call 14; refine (doc_any (s k) da (L k) dc _).mono ?_; rintro e w8 ⟨rfl, rfl⟩) | (go_at_call 13; refine (hsame _ ?_).mono ?_; rfl; rintro e w9 ⟨rfl, q, rfl⟩)))
                                all_goals
                                  go_wp2_with fail
                                  go_roundw
                                  case rel => exact ⟨k + 1, by omega, below_eq HB2.out rfl rfl rfl rfl, by go_num⟩
                                  case measure => simp [intOf]; omega
                            · obtain rfl : kk = k := by omega
                              have hs8 := H7.out.1.kept hB.out H7.out.1.lt
                              have hc12 := hs8.cell12
                              have hc13 := hs8.cell13
                              have HS8 : Hid (Sub wr S none 0 0 0 (kk : Int) false) := hs8
                              clear hs8
                              go_wp2_with (first | (go_at_call 15; refine (len_any S none 0 0 _ hc12).mono ?_; rintro e w8 ⟨rfl, rfl⟩) | (go_at_call 10; refine (bytes_any S 0 _ hc13).mono ?_; rintro e w8 ⟨rfl, rfl⟩))
                              go_meet
                              exact ⟨none, 0, [], HS8.out, World.ownsRow_nil _ _ _ _, H7.out.2.2.trans (hB.out.mono H7.out.2.2.size), fun i hi => by omega⟩
                        · obtain rfl : kk = 0 := by omega
                          go_wp2_with fail
                          go_meet
                          have h0 : x = 0 := by have := hX.out; simpa [tot] using this
                          subst h0
                          exact ⟨a, c, xs, hW.out⟩
                      case rest =>
                        obtain ⟨a, c, xs, h8⟩ := hcut.out
                        have H8 : Hid (Waits w4 wc S a 0 c 0 (kk : Int) false xs kk s L z) := h8
                        clear h8 hcut hW hX
                        go_wp2_with fail
                        go_loopw [17, 18] (fun t17 t18 wr => ∃ (j i : Nat) (x : Int) (a : Option Addr) (c : Nat) (xs : List Value), i ≤ N ∧ j ≤ i ∧ Hid (i = kk + j) ∧ 0 ≤ x ∧ x ≤ 1048576 ∧ Hid (x = ((tot L kk j : Nat) : Int)) ∧ Hid (Waits w4 wr S a j c x (i : Int) false xs kk s L z) ∧ t18 = .int .i64 (i : Int) ∧ t17 = .int .i64 x) (fun _ t18 _ => N - (intOf t18).toNat)
                        case atStart => exact ⟨0, kk, 0, a, c, xs, by omega, by omega, rfl, by omega, by omega, rfl, H8, rfl, rfl⟩
                        case round =>
                          clear H8
                          obtain ⟨j, i, x, a, c, xs, hi, hji, hI, hx0, hx1, hX, hW, rfl, rfl⟩ := hrel
                          by_cases hil : i < N
                          · have i1 := H4.out.2.names.index22 c2 i (i : Int) rfl (by omega)
                            have e1 : wr.cell? ⟨b2, 0 + i, none⟩ = some (.string (s i)) := by
                              have := H4.out.2.names.2 i (by omega)
                              rw [hW.out.below.cell (block_lt_of_cell this)]
                              exact this
                            have i2 := index23 H4.out.2.docs.1 c3 i (i : Int) rfl (by omega)
                            obtain ⟨v, e2', da, dc, db, doff, rfl, hd1, hd2⟩ := H4.out.2.docs.2 i (by omega)
                            have HD : Hid (Doc w4 (.slice da (L i) dc) (L i) (z i)) := ⟨da, dc, db, doff, rfl, hd1, hd2⟩
                            have e2 : wr.cell? ⟨b3, 0 + i, none⟩ = some (.slice da (L i) dc) := by
                              rw [hW.out.below.cell (block_lt_of_cell e2')]
                              exact e2'
                            clear e2' hd1 hd2
                            have i3 := index23 H4.out.2.wdocs.1 c5 i (i : Int) rfl (by omega)
                            obtain ⟨v, e3', da', dc', db', doff', rfl, -, -⟩ := H4.out.2.wdocs.2 i (by omega)
                            have HE3 : Hid (w4.cell? ⟨b5, 0 + i, none⟩ = some (.slice da' (L i) dc')) := e3'
                            clear e3'
                            have hLk := hS.out.2.2.2 i (by omega)
                            have hx2 : x + (L i : Int) ≤ 1048576 := by have h1 := hX.out; have h4 := hI.out; have h2 := tot_le L kk (j + 1) m (by omega); have h3 := HT.out; rw [tot, ← h4] at h2; omega
                            simp only [Nat.zero_add] at i1 i2 i3 e1 e2 HE3
                            have hadd := add_waits w4 wr.drew S a j c x (i : Int) false xs kk s L z i da dc ⟨b5, i, none⟩ (.slice da' (L i) dc') hI.out (hW.out.same rfl rfl rfl rfl) HQ.out HD.out (by omega) hx0 (by omega) (by omega) (by omega) hLk HE3.out
                            go_wp2_with fail
                            go_region_with (go_at_call 9; refine hadd.mono ?_; rintro e w6 ⟨rfl, e3, H6⟩)
                            all_goals
                              clear hadd
                              go_wp2_with fail
                              go_roundw
                              case rel =>
                                obtain ⟨a', c', xs', h6⟩ := H6.out
                                exact ⟨j + 1, i + 1, _, a', c', xs', by omega, by omega, by have := hI.out; show _ = _; omega, by omega, hx2, by have h1 := hX.out; have h2 := hI.out; show _ = _; rw [tot, ← h2]; omega, h6, by go_num, rfl⟩
                              case measure => simp [intOf]; omega
                          · obtain rfl : N = i := by omega
                            have hc13 := hW.out.sub.cell13
                            have hc14 := hW.out.sub.cell14
                            have hz14 := hW.out.sub.frozen 14
                            go_wp2_with fail
                            refine (bytes_any S x _ hc13).mono ?_
                            rintro e wr ⟨rfl, rfl⟩
                            go_wp2_with fail
                            refine (close_any S false _ hc14 hz14).mono ?_
                            rintro e w6 ⟨rfl, rfl⟩
                            have hjN : (N : Int) - (kk : Int) = (j : Int) := by have := hI.out; omega
                            have hA0 : Hid (Apart S wr (wr.setCell ⟨S, 14, none⟩ (.bool true))) := (Apart.refl S wr).put 14 (.bool true)
                            clear hc13 hc14 hz14
                            go_wp2_with fail
                            refine (take_any S a j c x (N : Int) true _ hW.out.sub.close (fun _ => rfl)).mono ?_
                            rintro e w7 ⟨rfl, hA1, hS7⟩
                            have hA : Apart S wr w7 := hA0.out.trans hA1
                            have H7 : Hid (Sub w7 S none 0 0 0 (N : Int) true ∧ w7.ownsRow (S + 1) 36 2 (.slice a j c) j xs ∧ Below w4.heap.size w4 w7) := ⟨hS7, hA.owns hW.out.own, hW.out.below.trans (hA.below.mono HQ.out)⟩
                            have HE : Hid (Entries w4 xs kk j s L z) := hW.out.ents
                            clear hA hA0 hA1 hS7 hW hX
                            go_wp2_with fail
                            have HJ : Hid (N = kk + j) := hI
                            clear hjN hI
                            go_loopw [20] (fun t20 wr => ∃ t i : Nat, i ≤ N ∧ Hid (i = kk + t) ∧ Hid (Below w7.heap.size w7 wr) ∧ t20 = .int .i64 (i : Int)) (fun t20 _ => N - (intOf t20).toNat)
                            case atStart => exact ⟨0, kk, by omega, rfl, Below.refl _ _, rfl⟩
                            case round =>
                              obtain ⟨t, i, hi2, hI, hB, rfl⟩ := hrel
                              by_cases hil2 : i < N
                              · have htj : t < j := by have h1 := HJ.out; have h2 := hI.out; omega
                                have htk : (i : Int) - (kk : Int) = (t : Int) := by have h2 := hI.out; omega
                                have hwt := wrap_id t (by omega)
                                obtain ⟨g, hidx, hcell⟩ := index32 H7.out.2.1 (by omega)
                                have i1 := hidx t (t : Int) rfl (by omega)
                                obtain ⟨v, x1, x2, hdoc⟩ := HE.out t (by omega)
                                rw [← hI.out] at x1 hdoc
                                obtain ⟨da, dc, db, doff, rfl, hd1, hd2⟩ := hdoc
                                have HD : Hid (Doc w4 (.slice da (L i) dc) (L i) (z i)) := ⟨da, dc, db, doff, rfl, hd1, hd2⟩
                                have f1 : wr.cell? ⟨g, t * 2, none⟩ = some (.string (s i)) := by
                                  have := (hcell (t * 2) (by omega)).trans x1
                                  rw [hB.out.cell (block_lt_of_cell this)]
                                  exact this
                                have f2 : wr.cell? ⟨g, t * 2 + 1, none⟩ = some (.slice da (L i) dc) := by
                                  have := (hcell (t * 2 + 1) (by omega)).trans x2
                                  rw [hB.out.cell (block_lt_of_cell this)]
                                  exact this
                                have b4r : Below w4.heap.size w4 wr := H7.out.2.2.trans (hB.out.mono H7.out.2.2.size)
                                have i2 := H4.out.2.wnames.index22 c4 i (i : Int) rfl (by omega)
                                have f3 : wr.cell? ⟨b4, 0 + i, none⟩ = some (.string (s i)) := by
                                  have := H4.out.2.wnames.2 i (by omega)
                                  rw [b4r.cell (block_lt_of_cell this)]
                                  exact this
                                have i3 := index23 H4.out.2.wdocs.1 c5 i (i : Int) rfl (by omega)
                                obtain ⟨v, f4', da', dc', db', doff', rfl, hd1', hd2'⟩ := H4.out.2.wdocs.2 i (by omega)
                                have f4 : wr.cell? ⟨b5, 0 + i, none⟩ = some (.slice da' (L i) dc') := by
                                  rw [b4r.cell (block_lt_of_cell f4')]
                                  exact f4'
                                have hsame : ∀ W : World, W.heap = ((wr.alloc (.cells #[.string (s i), .slice da (L i) dc] 36)).alloc (.cells #[.string (s i), .slice da (L i) dc] 36)).heap → Calls Try.prog 13 #[.slice da (L i) dc, .slice da' (L i) dc'] W fun e w' => e = .returned (.bool true) ∧ ∃ q, w' = W.drewN q := fun W hW =>
                                  same_docs ((b4r.alloc b4r.size _).alloc (Nat.le_trans b4r.size (by simp)) _) HD.out ⟨da', dc', db', doff', rfl, hd1', hd2'⟩ (hS.out.2.2.2 i (by omega)) hW
                                have HB2 : Hid (Below w7.heap.size w7 ((wr.alloc (.cells #[.string (s i), .slice da (L i) dc] 36)).alloc (.cells #[.string (s i), .slice da (L i) dc] 36))) := (hB.out.alloc hB.out.size _).alloc (Nat.le_trans hB.out.size (by simp)) _
                                simp only [Nat.zero_add] at i2 i3 f3 f4
                                have l1 := block_lt_of_cell f1
                                have l3 := block_lt_of_cell f3
                                have l4 := block_lt_of_cell f4
                                clear hidx hcell x1 x2 hd1 hd2 f4' hd1' hd2' b4r
                                go_wp2_with fail
                                go_region_held3 (fun w' => w'.cell? ⟨g, t * 2, none⟩ = some (.string (s i)) ∧ w'.cell? ⟨g, t * 2 + 1, none⟩ = some (.slice da (L i) dc) ∧ w'.cell? ⟨b4, i, none⟩ = some (.string (s i))) (go_keep) ((go_at_call 12; refine (name_any (s i) da (L i) dc _).mono ?_; rintro e w8 ⟨rfl, rfl⟩))
                                all_goals
                                  go_wp2_with fail
                                  go_region_held3 (fun w' => w'.cell? ⟨g, t * 2, none⟩ = some (.string (s i)) ∧ w'.cell? ⟨g, t * 2 + 1, none⟩ = some (.slice da (L i) dc) ∧ w'.cell? ⟨b5, i, none⟩ = some (.slice da' (L i) dc')) (go_keep) ((first | (go_at_call 14; refine (doc_any (s i) da (L i) dc _).mono ?_; rintro e w8 ⟨rfl, rfl⟩) | (go_at_call 13; refine (hsame _ ?_).mono ?_; rfl; rintro e w9 ⟨rfl, q, rfl⟩)))
                                  all_goals
                                    go_wp2_with fail
                                    go_roundw
                                    case rel => exact ⟨t + 1, i + 1, by omega, by have := hI.out; show _ = _; omega, below_eq HB2.out rfl rfl rfl rfl, by go_num⟩
                                    case measure => simp [intOf]; omega
                              · obtain rfl : N = i := by omega
                                go_wp2_with fail
                                have hs8 : Sub wr S none 0 0 0 (N : Int) true := H7.out.1.kept hB.out H7.out.1.lt
                                refine (take_any S none 0 0 0 (N : Int) true _ hs8 (fun _ => rfl)).mono ?_
                                rintro e w9 ⟨rfl, hA, hs9⟩
                                have HA : Hid (Below w.heap.size w w9) := ((H4.out.1.trans (H7.out.2.2.mono H4.out.1.size)).trans (hB.out.mono (Nat.le_trans H4.out.1.size H7.out.2.2.size))).trans (hA.below.mono (Nat.le_trans H4.out.1.size HQ.out))
                                have hc12 := hs9.cell12
                                have hc13 := hs9.cell13
                                have hc16 := hs9.cell16
                                clear hs8 hs9 hA
                                go_wp2_with (first | (go_at_call 15; refine (len_any S none 0 0 _ hc12).mono ?_; rintro e w8 ⟨rfl, rfl⟩) | (go_at_call 10; refine (bytes_any S 0 _ hc13).mono ?_; rintro e w8 ⟨rfl, rfl⟩) | (go_at_call 16; refine (added_any S (N : Int) _ hc16).mono ?_; rintro e w8 ⟨rfl, rfl⟩))
                                go_ret
                                exact ⟨rfl, HA.out⟩
end Go.Proofs.Qxb6625994a
