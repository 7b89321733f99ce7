/-
  SEAT b6628470aF. THE WALK OF parseTilePath (function 6) AT A PATH.
-/
import Derived.Test.Qxb6628470aFmtPath
import Derived.Test.Qxb6628470aFmtParseDec
namespace Go.Proofs.Qxb6628470aFmt
open Go Go.RowKit

theorem results_tmp5 {fn : Func} {t u v x y : Tmp} (h : fn.results = #[.tmp t, .tmp u, .tmp v, .tmp x, .tmp y]) (tmps : Array Value) (P : Program) (w : World) :
    (results fn tmps).run P w = .ok (.tuple #[tmps.getD t undef, tmps.getD u undef, tmps.getD v undef, tmps.getD x undef, tmps.getD y undef]) w := by
  simp [results, h, go_sem]

theorem parseDec_any (s : ByteArray) (p : Nat) (v : Int) (w : World) (hs : s.size ≤ 1000) (h0 : -9223372036854775808 ≤ v) (h1 : v ≤ 9223372036854775807) (h : At s p (Lib.itoa v)) (he : Ends s (p + (Lib.itoa v).length)) :
    Calls Tryf.prog 11 #[.string s, .int .i64 (p : Int)] w fun e w' => e = .returned (.tuple #[.int .i64 v, .int .i64 ((p : Int) + (Lib.itoa v).length), .bool true]) ∧ w' = w := by
  by_cases hneg : v < 0
  · obtain ⟨U, rfl⟩ : ∃ U : Nat, v = -(U : Int) := ⟨v.natAbs, by omega⟩
    have e : Lib.itoa (-(U : Int)) = 45 :: Lib.decDigits U := by unfold Lib.itoa; rw [if_pos hneg]; simp
    rw [e] at h he ⊢
    have hm : p < s.size := by have := h.size (by simp); simp at this; omega
    have hb := h.byte 0 (by simp) hm
    have h' : At s (p + 1) (Lib.decDigits U) := At.later (a := [45]) h
    have hl : ((p : Int) + ((45 :: Lib.decDigits U).length : Nat)) = (p : Int) + 1 + ((Lib.decDigits U).length : Nat) := by simp; omega
    rw [hl]
    exact parseDec_neg s p _ U w hs (show U ≤ _ by omega) (show 0 < U by omega) rfl hm (by simp only [Nat.add_zero] at hb; rw [hb]; rfl) h' (show Ends s _ by simpa [Nat.add_assoc, Nat.add_comm 1] using he)
  · obtain ⟨U, rfl⟩ : ∃ U : Nat, v = (U : Int) := ⟨v.toNat, by omega⟩
    have e : Lib.itoa (U : Int) = Lib.decDigits U := by unfold Lib.itoa; rw [if_neg hneg]; simp
    rw [e] at h he ⊢
    exact parseDec_pos s p _ U w hs (show U ≤ _ by omega) rfl h he

theorem parseDec_at (s : ByteArray) (x : Int) (p : Nat) (v y : Int) (hx : x = (p : Int)) (hy : y = (p : Int) + (Lib.itoa v).length) (w : World) (hs : s.size ≤ 1000) (h0 : -9223372036854775808 ≤ v) (h1 : v ≤ 9223372036854775807) (h : At s p (Lib.itoa v)) (he : Ends s (p + (Lib.itoa v).length)) :
    Calls Tryf.prog 11 #[.string s, .int .i64 x] w fun e w' => e = .returned (.tuple #[.int .i64 v, .int .i64 y, .bool true]) ∧ w' = w := by
  subst hx; subst hy
  exact parseDec_any s p v w hs h0 h1 h he

theorem read3_at (s : ByteArray) (q : Int) (p g : Nat) (z : Int) (hq : q = (p : Int)) (hz : z = (g : Int)) (w : World) (hg : g < 1000) (hs : s.size ≤ 1000) (h : At s p (d3 g)) :
    Calls Tryf.prog 12 #[.string s, .int .i64 q] w fun e w' => e = .returned (.tuple #[.int .u64 z, .bool true]) ∧ w' = w := by
  subst hz; subst hq
  exact read3_any s p g w hg hs h

/-- One group of the path with its mark and its slash. -/
theorem At.group {s : ByteArray} {q N m : Nat} {tl : List UInt8} (h : At s q (G N (m + 1) ++ tl)) :
    q + 5 < s.size ∧ (∀ hq : q < s.size, (s[q]'hq).toNat = 120) ∧ At s (q + 1) (d3 (N / 1000 ^ (m + 1) % 1000)) ∧ (∀ hq : q + 4 < s.size, (s[q + 4]'hq).toNat = 47) ∧ At s (q + 5) (G N m ++ tl) := by
  have e : G N (m + 1) ++ tl = [120] ++ (d3 (N / 1000 ^ (m + 1) % 1000) ++ ([47] ++ (G N m ++ tl))) := by simp [G]
  have hg := G_length N m
  have h1 := h.size (by rw [G]; simp)
  rw [e] at h h1
  simp [d3_length, hg] at h1
  have hA1 := h.later
  have hA4 := hA1.later
  have hA5 := hA4.later
  refine ⟨by omega, fun hq => ?_, hA1.first, fun hq => ?_, hA5⟩
  · have := h.byte 0 (by simp) hq
    simp only [Nat.add_zero] at this
    rw [this]; rfl
  · have := hA4.byte 0 (by simp) (by simpa [d3_length] using hq)
    have e4 : q + [(120 : UInt8)].length + (d3 (N / 1000 ^ (m + 1) % 1000)).length + 0 = q + 4 := by simp [d3_length]
    simp only [e4] at this
    rw [this]; rfl

theorem At.last {s : ByteArray} {q N : Nat} {tl : List UInt8} (h : At s q (G N 0 ++ tl)) :
    q + 3 ≤ s.size ∧ (∀ hq : q < s.size, 48 ≤ (s[q]'hq).toNat ∧ (s[q]'hq).toNat ≤ 57) ∧ At s q (d3 (N % 1000)) ∧ At s (q + 3) tl := by
  have h1 := h.first.size (by simp [G, d3_length])
  refine ⟨by simpa [G, d3_length] using h1, fun hq => ?_, h.first, At.later (a := G N 0) h⟩
  have := h.first.byte 0 (by simp [G, d3_length]) hq
  simp only [Nat.add_zero] at this
  rw [this]
  have := d3_byte (N % 1000) 0 (by omega)
  simp only [G]
  rw [this]
  simp
  omega

theorem value_next (N m : Nat) : N / 1000 ^ (m + 1 + 1) * 1000 + N / 1000 ^ (m + 1) % 1000 = N / 1000 ^ (m + 1) := by
  rw [Nat.pow_succ _ (m + 1), ← Nat.div_div_eq_div_mul]
  omega

theorem top_group {N m : Nat} (h : Top N (m + 1)) : N / 1000 ^ (m + 1) % 1000 ≠ 0 := by
  have h1 := h.1
  have h2 := h.2 (m + 1) (by omega) (by omega)
  rw [Nat.pow_succ, ← Nat.div_div_eq_div_mul] at h1
  omega

theorem drop_group {s : ByteArray} {q N m : Nat} {tl : List UInt8} (h : s.data.toList.drop q = G N (m + 1) ++ tl) : s.data.toList.drop (q + 5) = G N m ++ tl := by
  rw [← List.drop_drop, h]
  simp [G, d3]

theorem drop_last {s : ByteArray} {q N : Nat} {tl : List UInt8} (h : s.data.toList.drop q = G N 0 ++ tl) : s.data.toList.drop (q + 3) = tl := by
  rw [← List.drop_drop, h]
  simp [G, d3]

theorem at_of_drop {s : ByteArray} {q : Nat} {l : List UInt8} (h : s.data.toList.drop q = l) : At s q l := ⟨[], by simp [h]⟩

theorem size_of_drop {s : ByteArray} {q : Nat} {l : List UInt8} (h : s.data.toList.drop q = l) (hq : q ≤ s.size) : s.size = q + l.length := by
  have := congrArg List.length h
  simp at this
  omega

set_option maxHeartbeats 3200000 in
set_option maxRecDepth 100000 in
theorem tile_any (s : ByteArray) (level : Int) (N k n1 : Nat) (W : Int) (P : Bool) (w : World) (hs : s.size ≤ 1000) (hl0 : -9223372036854775808 ≤ level) (hl1 : level ≤ 9223372036854775807) (hN : Hid (N ≤ 18446744073709551615)) (hk : Hid (Top N k))
    (hn1 : Hid ((Lib.itoa level).length = n1)) (tl : List UInt8) (hS : Hid (s.data.toList = Lib.itoa level ++ 47 :: (G N k ++ tl)))
    (htl : Hid ((tl = [] ∧ W = 0 ∧ P = false) ∨ (tl = 46 :: 112 :: 47 :: Lib.itoa W ∧ P = true ∧ W < 256 ∧ -9223372036854775808 ≤ W))) :
    Calls Tryf.prog 6 #[.string s] w fun e w' => e = .returned (.tuple #[.int .i64 level, .int .u64 (N : Int), .int .i64 W, .bool P, .bool true]) ∧ w' = w := by
  have hA0 : At s 0 (Lib.itoa level ++ 47 :: (G N k ++ tl)) := ⟨[], by simp [hS.out]⟩
  have hA1 := hA0.later
  rw [hn1.out, Nat.zero_add] at hA1
  have hm : n1 < s.size := by have := hA1.size (by simp); simp at this; omega
  have hm47 : (s[n1]'hm).toNat = 47 := by have := hA1.byte 0 (by simp) hm; simp only [Nat.add_zero] at this; rw [this]; rfl
  have HA2 : Hid (s.data.toList.drop (n1 + 1) = G N k ++ tl) := by
    unfold Hid
    rw [hS.out, ← hn1.out, ← List.drop_drop, List.drop_left]
    rfl
  have HA0 : Hid (At s 0 (Lib.itoa level)) := hA0.first
  have HE : Hid (Ends s (0 + (Lib.itoa level).length)) := Or.inr ⟨by rw [hn1.out, Nat.zero_add]; exact hm, by have := hm47; simp only [hn1.out, Nat.zero_add]; omega⟩
  have hdm : decide (s.size ≤ n1) = false := by simp; omega
  have hk6 : k ≤ 6 := top_le hk.out (by have := hN.out; omega)
  clear hA0 hA1
  go_enter Tryf.func6, Tryf.ntmps6
  go_wp2_with fail
  refine (parseDec_any s 0 level w hs hl0 hl1 HA0.out HE.out).mono ?_
  rintro e w1 ⟨rfl, rfl⟩
  rw [hn1.out]
  go_wp2_with fail
  clear hl0 hl1 hm47
  go_loop [8, 10, 11, 12, 13] (fun t8 t10 t11 _ _ => ∃ (q j m : Nat) (a : Int), Hid (j + m = k) ∧ q ≤ 1000 ∧ j ≤ 6 ∧ 0 ≤ a ∧ a ≤ 18446744073709551615 ∧ Hid (a = ((N / 1000 ^ (m + 1) : Nat) : Int)) ∧ Hid (s.data.toList.drop q = G N m ++ tl) ∧ t8 = .int .i64 (q : Int) ∧ t10 = .int .u64 a ∧ t11 = .int .i64 (j : Int)) (fun t8 _ _ _ _ => s.size - (intOf t8).toNat)
  case atStart => exact ⟨n1 + 1, 0, k, 0, by unfold Hid; omega, by omega, by omega, by omega, by omega, by unfold Hid; rw [hk.out.1]; rfl, HA2, by go_num, rfl, rfl⟩
  case round =>
    obtain ⟨q, j, m, a, hjm, hq, hj6, ha0, ha1, hA, hAt, rfl, rfl, rfl⟩ := hrel
    rcases m with _ | m
    · obtain ⟨hq3, hb0, hd, hnext⟩ := (at_of_drop hAt.out).last
      have hq0 : q < s.size := by omega
      obtain ⟨c, hc⟩ : ∃ c : Nat, (s[q]'hq0).toNat = c := ⟨_, rfl⟩
      have hcd := hb0 hq0
      rw [hc] at hcd
      have hc120 : ((c : Int) == 120) = false := by simp; omega
      obtain ⟨z, hz⟩ : ∃ z : Int, z = ((N % 1000 : Nat) : Int) := ⟨_, rfl⟩
      have hz0 : 0 ≤ z := by omega
      have hz1 : z ≤ 999 := by omega
      have hA' := hA.out
      have HV : Hid (a * 1000 + z = (N : Int)) := by unfold Hid; rw [hz, hA']; simp; omega
      have hb : a * 1000 + z ≤ 18446744073709551615 := by have := HV.out; have := hN.out; omega
      have HZ : Hid (z = ((N % 1000 : Nat) : Int)) := hz
      have HD : Hid (At s q (d3 (N % 1000))) := hd
      have HL : Hid (s.data.toList.drop (q + 3) = tl) := drop_last hAt.out
      clear hz hb0 hd hnext hA' hcd
      go_wp2_with fail
      refine (read3_at s _ q _ z rfl HZ.out w1 (Nat.mod_lt _ (by decide)) hs HD.out).mono ?_
      rintro e w2 ⟨rfl, rfl⟩
      rcases htl.out with ⟨htl, hW, hP⟩ | ⟨htl, hP, hW1, hW0⟩
      · have hsz : s.size ≤ q + 3 := by have := size_of_drop HL.out hq3; rw [htl] at this; simp at this; omega
        have hsz' : ((q : Int) + 3 == (s.size : Int)) = true := by simp; omega
        clear htl
        subst hW hP
        go_wp2
        refine bodyPost_ret (results_tmp5 rfl _ _ _) rfl ⟨?_, rfl⟩
        rw [HV.out]; rfl
      · have hL := HL.out
        rw [htl] at hL
        have hsz : s.size = q + 3 + 3 + (Lib.itoa W).length := by have := size_of_drop hL hq3; simp at this; omega
        have hAt3 := at_of_drop hL
        have hs3 : q + 3 < s.size := by omega
        have hs4 : q + 3 + 1 < s.size := by omega
        have hs5 : q + 3 + 2 < s.size := by omega
        have hb3 : (s[q + 3]'hs3).toNat = 46 := by have := hAt3.byte 0 (by simp) hs3; simp only [Nat.add_zero] at this; rw [this]; rfl
        have hb4 : (s[q + 3 + 1]'hs4).toNat = 112 := by have := hAt3.byte 1 (by simp) hs4; rw [this]; rfl
        have hb5 : (s[q + 3 + 2]'hs5).toNat = 47 := by have := hAt3.byte 2 (by simp) hs5; rw [this]; rfl
        have HW : Hid (At s (q + 6) (Lib.itoa W)) := At.later (a := [46, 112, 47]) hAt3
        have HSZ : Hid (s.size = q + 6 + (Lib.itoa W).length) := by unfold Hid; omega
        have hne : ((q : Int) + 3 == (s.size : Int)) = false := by simp; omega
        have hge : q + 3 + 3 ≤ s.size := by omega
        clear htl hL hAt3 hsz
        subst hP
        go_wp2_with fail
        refine (parseDec_at s _ (q + 6) W (s.size : Int) (by omega) (by have := HSZ.out; omega) w2 hs hW0 (by omega) HW.out (Or.inl HSZ.out)).mono ?_
        rintro e w3 ⟨rfl, rfl⟩
        go_wp2_with fail
        refine bodyPost_ret (results_tmp5 rfl _ _ _) rfl ⟨?_, rfl⟩
        rw [HV.out]; rfl
    · obtain ⟨hq5, hb0, hd, hb4, _⟩ := (at_of_drop hAt.out).group
      have hq0 : q < s.size := by omega
      have hq4 : q + 4 < s.size := by omega
      have hb0' := hb0 hq0
      have hb4' := hb4 hq4
      have HD : Hid (At s (q + 1) (d3 (N / 1000 ^ (m + 1) % 1000))) := hd
      have HNX : Hid (s.data.toList.drop (q + 5) = G N m ++ tl) := drop_group hAt.out
      obtain ⟨z, hz⟩ : ∃ z : Int, z = ((N / 1000 ^ (m + 1) % 1000 : Nat) : Int) := ⟨_, rfl⟩
      have hz0 : 0 ≤ z := by omega
      have hz1 : z ≤ 999 := by omega
      have hv := value_next N m
      have hle := Nat.div_le_self N (1000 ^ (m + 1))
      have HV : Hid (a * 1000 + z = ((N / 1000 ^ (m + 1) : Nat) : Int)) := by unfold Hid; rw [hz, hA.out]; omega
      have hb : a * 1000 + z ≤ 18446744073709551615 := by have := HV.out; have := hN.out; omega
      have HZ : Hid (z = ((N / 1000 ^ (m + 1) % 1000 : Nat) : Int)) := hz
      have hj5 : j ≤ 5 := by have := hjm.out; omega
      clear hv hle hz hb0 hb4 hd
      by_cases hj0 : j = 0
      · have hzz : (z == 0) = false := by
          have hkm : k = m + 1 := by have := hjm.out; omega
          have ht := hk.out
          rw [hkm] at ht
          have := top_group ht
          have := HZ.out
          simp; omega
        subst hj0
        go_wp2_with fail
        refine (read3_at s _ (q + 1) _ z (by omega) HZ.out w1 (Nat.mod_lt _ (by decide)) hs HD.out).mono ?_
        rintro e w2 ⟨rfl, rfl⟩
        go_wp2_with fail
        go_round
        case rel => exact ⟨q + 5, 1, m, _, by have := hjm.out; unfold Hid; omega, by omega, by omega, by omega, hb, HV, HNX, by go_num, rfl, rfl⟩
        case measure => simp [intOf]; omega
      · have hjz : ((j : Int) == 0) = false := by simp; omega
        go_wp2_with fail
        refine (read3_at s _ (q + 1) _ z (by omega) HZ.out w1 (Nat.mod_lt _ (by decide)) hs HD.out).mono ?_
        rintro e w2 ⟨rfl, rfl⟩
        go_wp2_with fail
        go_round
        case rel => exact ⟨q + 5, j + 1, m, _, by have := hjm.out; unfold Hid; omega, by omega, by omega, by omega, hb, HV, HNX, by go_num, rfl, by go_num⟩
        case measure => simp [intOf]; omega
end Go.Proofs.Qxb6628470aFmt
