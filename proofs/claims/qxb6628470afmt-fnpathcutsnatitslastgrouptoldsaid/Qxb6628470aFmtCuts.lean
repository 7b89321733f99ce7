/-
  SEAT b6628470aF. THE WALK OF FnPathCutsNAtItsLastGroup (function 4).
-/
import Derived.Test.Qxb6628470aFmtPath
import Derived.Test.Qxb6628470aFmtPad
import Derived.Test.Qxb6628470aFmtItoa
import Derived.BigQuiet
import Derived.Deep.QuietTactic
namespace Go.Proofs.Qxb6628470aFmt
open Go Go.RowKit Go.Extern.Stop Go.Stop Go.Extern

theorem path_at (F : Interp) (level : Int) (n : Int) (N k : Nat) (hn : n = (N : Int)) (width : Int) (w : World) (hF : F.told.answers w.tape) (hN : (N : Int) ≤ 18446744073709551615) (hk : Hid (Top N k))
    (hl0 : -9223372036854775808 ≤ level) (hl1 : level ≤ 9223372036854775807) (hw0 : -9223372036854775808 ≤ width) (hw1 : width ≤ 9223372036854775807) (hT : Tab w) :
    Calls Tryf.prog 5 #[.agg #[.int .i64 level, .int .u64 n, .int .i64 width]] w fun e w' => e = .returned (.string (S (pathL level N k width))) ∧ Below w.heap.size w w' := by
  subst hn
  exact path_any F level N k width w hF hN hk hl0 hl1 hw0 hw1 hT

theorem pad3_at (z : Int) (g : Nat) (hz : z = (g : Int)) (w : World) (hg : g < 1000) :
    Calls Tryf.prog 8 #[.int .u64 z] w fun e w' => e = .returned (.string (S (d3 g))) ∧ Below w.heap.size w w' := by
  subst hz
  exact pad3_any g w hg

theorem path_size (level : Int) (N k : Nat) (hk : k ≤ 6) (hl0 : -9223372036854775808 ≤ level) (hl1 : level ≤ 9223372036854775807) : (S (pathL level N k 256)).size ≤ 80 := by
  have h1 := Lib.itoa_length_le level hl0 hl1
  rw [S_size, pathL, if_neg (by omega)]
  simp [G_length]
  omega

theorem path_size3 (level : Int) (N k : Nat) : 3 ≤ (S (pathL level N k 256)).size := by
  rw [S_size, pathL]
  simp [G_length]
  omega

theorem path_tail (level : Int) (N k : Nat) (width : Int) (h : width < 256) : S (pathL level N k 256) ++ (⟨#[46, 112, 47]⟩ ++ S (Lib.itoa width)) = S (pathL level N k width) := by
  rw [show (⟨#[46, 112, 47]⟩ : ByteArray) = S [46, 112, 47] from rfl, S_append, S_append, pathL, pathL, if_neg (by omega), if_pos h]
  simp

theorem path_full (level : Int) (N k : Nat) (width : Int) (h : ¬ width < 256) : pathL level N k width = pathL level N k 256 := by
  rw [pathL, pathL, if_neg h, if_neg (by omega)]

theorem S_extract (l : List UInt8) (a b : Nat) : (S l).extract a b = S ((l.drop a).take (b - a)) := by
  apply S_list
  rw [ByteArray.data_extract]
  simp [S, List.extract_eq_take_drop]

theorem path_cut (level : Int) (N j : Nat) :
    (S (pathL level (N / 1000) j 256)).extract 0 ((S (pathL level (N / 1000) j 256)).size - 3) ++ ⟨#[120]⟩ ++ (S (pathL level (N / 1000) j 256)).extract ((S (pathL level (N / 1000) j 256)).size - 3) (S (pathL level (N / 1000) j 256)).size ++ ⟨#[47]⟩ ++ S (d3 (N % 1000))
      = S (pathL level N (j + 1) 256) := by
  have e : pathL level (N / 1000) j 256 = (Lib.itoa level ++ 47 :: A (N / 1000) j) ++ d3 (N / 1000 % 1000) := by
    rw [pathL, if_neg (by omega), G_eq_A]; simp
  obtain ⟨l, hl⟩ : ∃ l, l = Lib.itoa level ++ 47 :: A (N / 1000) j := ⟨_, rfl⟩
  rw [S_size, e, ← hl, S_extract, S_extract, show (⟨#[120]⟩ : ByteArray) = S [120] from rfl, show (⟨#[47]⟩ : ByteArray) = S [47] from rfl, S_append, S_append, S_append, S_append]
  have e1 : (l ++ d3 (N / 1000 % 1000)).length - 3 = l.length := by simp [d3_length]
  rw [e1, List.length_append, d3_length]
  simp only [List.drop_zero, Nat.sub_zero, List.take_left, List.drop_left]
  rw [show l.length + 3 - l.length = (d3 (N / 1000 % 1000)).length by rw [d3_length]; omega, List.take_length, hl, pathL, if_neg (by omega), G_cut]
  simp

theorem path_zero (level : Int) (N : Nat) : S (Lib.itoa level) ++ ⟨#[47]⟩ ++ S (d3 (N % 1000)) = S (pathL level N 0 256) := by
  rw [show (⟨#[47]⟩ : ByteArray) = S [47] from rfl, S_append, S_append, pathL, if_neg (by omega)]
  simp [G]

set_option maxHeartbeats 800000 in
/-- The width is below 256, the index below 1000. -/
theorem cuts_aa (F : Interp) (level n : Int) (N : Nat) (width : Int) (w : World) (hF : F.told.answers w.tape) (hn : Hid (n = (N : Int))) (hn0 : 0 ≤ n) (hsm : n < 1000) (hk : Hid (Top N 0))
    (hl0 : -9223372036854775808 ≤ level) (hl1 : level ≤ 9223372036854775807) (hw0 : -9223372036854775808 ≤ width) (hw1 : width ≤ 9223372036854775807) (hT : Tab w) (hwid : width < 256) :
    Calls Tryf.prog 4 #[.int .i64 level, .int .u64 n, .int .i64 width] w fun e w' => e = .returned (.bool true) ∧ Below w.heap.size w w' := by
  have hsf := path_size level N 0 (by omega) hl0 hl1
  have hil := itoa_size level hl0 hl1
  have hiw := itoa_size width hw0 hw1
  have hds : (S (d3 (N % 1000))).size = 3 := rfl
  have htail := path_tail level N 0 width hwid
  have hz := path_zero level N
  go_enter Tryf.func4, Tryf.ntmps4
  go_wp2_with fail
  refine (path_at F level n N 0 hn.out width w hF (by have := hn.out; omega) hk hl0 hl1 hw0 hw1 hT).mono ?_
  rintro e w1 ⟨rfl, b1⟩
  have hF1 : F.told.answers w1.tape := by rw [b1.tape]; exact hF
  have hT1 := hT.below b1
  go_wp2_with fail
  refine (path_at F level n N 0 hn.out 256 w1 hF1 (by have := hn.out; omega) hk hl0 hl1 (by omega) (by omega) hT1).mono ?_
  rintro e w2 ⟨rfl, b2⟩
  go_wp2_with fail
  refine (itoaInt_any _ _ hw0 hw1).mono ?_
  rintro e w3 ⟨rfl, b3⟩
  go_wp2_with fail
  refine (pad3_at _ (N % 1000) (by have := hn.out; omega) _ (by omega)).mono ?_
  rintro e w4 ⟨rfl, b4⟩
  go_wp2_with fail
  refine (itoaInt_any _ _ hl0 hl1).mono ?_
  rintro e w5 ⟨rfl, b5⟩
  go_wp2_with fail
  go_ret
  exact ⟨rfl, b1.trans ((b2.trans ((b3.trans ((b4.trans (b5.mono b4.size)).mono b3.size)).mono b2.size)).mono b1.size)⟩

set_option maxHeartbeats 800000 in
/-- The width is below 256, the index 1000 or more. -/
theorem cuts_ab (F : Interp) (level n : Int) (N j : Nat) (width : Int) (w : World) (hF : F.told.answers w.tape) (hn : Hid (n = (N : Int))) (hn0 : 1000 ≤ n) (hn1 : n ≤ 18446744073709551615) (hk : Hid (Top N (j + 1))) (hj : Hid (Top (N / 1000) j)) (hj6 : j ≤ 5)
    (hl0 : -9223372036854775808 ≤ level) (hl1 : level ≤ 9223372036854775807) (hw0 : -9223372036854775808 ≤ width) (hw1 : width ≤ 9223372036854775807) (hT : Tab w) (hwid : width < 256) :
    Calls Tryf.prog 4 #[.int .i64 level, .int .u64 n, .int .i64 width] w fun e w' => e = .returned (.bool true) ∧ Below w.heap.size w w' := by
  have hsf := path_size level N (j + 1) (by omega) hl0 hl1
  have hil := itoa_size level hl0 hl1
  have hiw := itoa_size width hw0 hw1
  have hds : (S (d3 (N % 1000))).size = 3 := rfl
  have htail := path_tail level N (j + 1) width hwid
  have hjs := path_size level (N / 1000) j (by omega) hl0 hl1
  have hp3 := path_size3 level (N / 1000) j
  go_enter Tryf.func4, Tryf.ntmps4
  go_wp2_with fail
  refine (path_at F level n N (j + 1) hn.out width w hF (by have := hn.out; omega) hk hl0 hl1 hw0 hw1 hT).mono ?_
  rintro e w1 ⟨rfl, b1⟩
  have hF1 : F.told.answers w1.tape := by rw [b1.tape]; exact hF
  have hT1 := hT.below b1
  go_wp2_with fail
  refine (path_at F level n N (j + 1) hn.out 256 w1 hF1 (by have := hn.out; omega) hk hl0 hl1 (by omega) (by omega) hT1).mono ?_
  rintro e w2 ⟨rfl, b2⟩
  go_wp2_with fail
  refine (itoaInt_any _ _ hw0 hw1).mono ?_
  rintro e w3 ⟨rfl, b3⟩
  go_wp2_with fail
  refine (pad3_at _ (N % 1000) (by have := hn.out; omega) _ (by omega)).mono ?_
  rintro e w4 ⟨rfl, b4⟩
  have b04 := b1.trans ((b2.trans ((b3.trans (b4.mono b3.size)).mono b2.size)).mono b1.size)
  have hF4 : F.told.answers w4.tape := by rw [b04.tape]; exact hF
  have hT4 := hT.below b04
  go_wp2_with fail
  refine (path_at F level _ (N / 1000) j (by have := hn.out; omega) 256 _ hF4 (by have := hn.out; omega) hj hl0 hl1 (by omega) (by omega) hT4).mono ?_
  rintro e w5 ⟨rfl, b5⟩
  go_wp2_with fail
  go_quiet (fail)
  go_wp2
  go_ret
  have b05 := b04.trans (b5.mono b04.size)
  refine ⟨?_, below_drewN b05 _⟩
  show Ending.returned (.bool ((S (pathL level N (j + 1) 256)).toList == (_ : ByteArray).toList)) = _
  rw [path_cut level N j]
  simp
theorem path_none (level : Int) (N k : Nat) : S (pathL level N k 256) ++ ⟨#[]⟩ = S (pathL level N k 256) := by
  rw [show (⟨#[]⟩ : ByteArray) = S [] from rfl, S_append]; simp

set_option maxHeartbeats 800000 in
/-- The width is 256 or more, the index below 1000. -/
theorem cuts_ba (F : Interp) (level n : Int) (N : Nat) (width : Int) (w : World) (hF : F.told.answers w.tape) (hn : Hid (n = (N : Int))) (hn0 : 0 ≤ n) (hsm : n < 1000) (hk : Hid (Top N 0))
    (hl0 : -9223372036854775808 ≤ level) (hl1 : level ≤ 9223372036854775807) (hw0 : -9223372036854775808 ≤ width) (hw1 : width ≤ 9223372036854775807) (hT : Tab w) (hwid : ¬ width < 256) :
    Calls Tryf.prog 4 #[.int .i64 level, .int .u64 n, .int .i64 width] w fun e w' => e = .returned (.bool true) ∧ Below w.heap.size w w' := by
  have hsf := path_size level N 0 (by omega) hl0 hl1
  have hil := itoa_size level hl0 hl1
  have hds : (S (d3 (N % 1000))).size = 3 := rfl
  have htail := path_none level N 0
  have hz := path_zero level N
  have hfull := path_full level N 0 width hwid
  go_enter Tryf.func4, Tryf.ntmps4
  go_wp2_with fail
  refine (path_at F level n N 0 hn.out width w hF (by have := hn.out; omega) hk hl0 hl1 hw0 hw1 hT).mono ?_
  rintro e w1 ⟨rfl, b1⟩
  have hF1 : F.told.answers w1.tape := by rw [b1.tape]; exact hF
  have hT1 := hT.below b1
  go_wp2_with fail
  refine (path_at F level n N 0 hn.out 256 w1 hF1 (by have := hn.out; omega) hk hl0 hl1 (by omega) (by omega) hT1).mono ?_
  rintro e w2 ⟨rfl, b2⟩
  go_wp2_with fail
  refine (pad3_at _ (N % 1000) (by have := hn.out; omega) _ (by omega)).mono ?_
  rintro e w4 ⟨rfl, b4⟩
  go_wp2_with fail
  refine (itoaInt_any _ _ hl0 hl1).mono ?_
  rintro e w5 ⟨rfl, b5⟩
  go_wp2_with fail
  go_ret
  exact ⟨rfl, b1.trans ((b2.trans ((b4.trans (b5.mono b4.size)).mono b2.size)).mono b1.size)⟩

set_option maxHeartbeats 800000 in
/-- The width is 256 or more, the index 1000 or more. -/
theorem cuts_bb (F : Interp) (level n : Int) (N j : Nat) (width : Int) (w : World) (hF : F.told.answers w.tape) (hn : Hid (n = (N : Int))) (hn0 : 1000 ≤ n) (hn1 : n ≤ 18446744073709551615) (hk : Hid (Top N (j + 1))) (hj : Hid (Top (N / 1000) j)) (hj6 : j ≤ 5)
    (hl0 : -9223372036854775808 ≤ level) (hl1 : level ≤ 9223372036854775807) (hw0 : -9223372036854775808 ≤ width) (hw1 : width ≤ 9223372036854775807) (hT : Tab w) (hwid : ¬ width < 256) :
    Calls Tryf.prog 4 #[.int .i64 level, .int .u64 n, .int .i64 width] w fun e w' => e = .returned (.bool true) ∧ Below w.heap.size w w' := by
  have hsf := path_size level N (j + 1) (by omega) hl0 hl1
  have hil := itoa_size level hl0 hl1
  have hds : (S (d3 (N % 1000))).size = 3 := rfl
  have htail := path_none level N (j + 1)
  have hjs := path_size level (N / 1000) j (by omega) hl0 hl1
  have hp3 := path_size3 level (N / 1000) j
  have hfull := path_full level N (j + 1) width hwid
  go_enter Tryf.func4, Tryf.ntmps4
  go_wp2_with fail
  refine (path_at F level n N (j + 1) hn.out width w hF (by have := hn.out; omega) hk hl0 hl1 hw0 hw1 hT).mono ?_
  rintro e w1 ⟨rfl, b1⟩
  have hF1 : F.told.answers w1.tape := by rw [b1.tape]; exact hF
  have hT1 := hT.below b1
  go_wp2_with fail
  refine (path_at F level n N (j + 1) hn.out 256 w1 hF1 (by have := hn.out; omega) hk hl0 hl1 (by omega) (by omega) hT1).mono ?_
  rintro e w2 ⟨rfl, b2⟩
  go_wp2_with fail
  refine (pad3_at _ (N % 1000) (by have := hn.out; omega) _ (by omega)).mono ?_
  rintro e w4 ⟨rfl, b4⟩
  have b04 := b1.trans ((b2.trans (b4.mono b2.size)).mono b1.size)
  have hF4 : F.told.answers w4.tape := by rw [b04.tape]; exact hF
  have hT4 := hT.below b04
  go_wp2_with fail
  refine (path_at F level _ (N / 1000) j (by have := hn.out; omega) 256 _ hF4 (by have := hn.out; omega) hj hl0 hl1 (by omega) (by omega) hT4).mono ?_
  rintro e w5 ⟨rfl, b5⟩
  go_wp2_with fail
  go_quiet (fail)
  go_wp2
  go_ret
  have b05 := b04.trans (b5.mono b04.size)
  refine ⟨?_, below_drewN b05 _⟩
  show Ending.returned (.bool ((S (pathL level N (j + 1) 256)).toList == (_ : ByteArray).toList)) = _
  rw [path_cut level N j]
  simp

/-- Every index below 2^64 has a last group. -/
theorem top_some (N : Nat) (h : (N : Int) ≤ 18446744073709551615) : ∃ k, Top N k := by
  have key : ∀ k, N < 1000 ^ (k + 1) → ∃ k, Top N k := by
    intro k
    induction k with
    | zero => intro h; exact ⟨0, Nat.div_eq_of_lt h, fun j h1 h2 => by omega⟩
    | succ k ih =>
      intro h
      by_cases hlt : N < 1000 ^ (k + 1)
      · exact ih hlt
      · refine ⟨k + 1, Nat.div_eq_of_lt h, fun j h1 h2 => Nat.div_pos ?_ (Nat.pow_pos (by decide))⟩
        exact Nat.le_trans (Nat.pow_le_pow_right (by decide) h2) (Nat.le_of_not_lt hlt)
  exact key 6 (by omega)

theorem cuts_any (F : Interp) (level n width : Int) (w : World) (hF : F.told.answers w.tape) (hn0 : 0 ≤ n) (hn1 : n ≤ 18446744073709551615)
    (hl0 : -9223372036854775808 ≤ level) (hl1 : level ≤ 9223372036854775807) (hw0 : -9223372036854775808 ≤ width) (hw1 : width ≤ 9223372036854775807) (hT : Tab w) :
    Calls Tryf.prog 4 #[.int .i64 level, .int .u64 n, .int .i64 width] w fun e w' => e = .returned (.bool true) ∧ Below w.heap.size w w' := by
  obtain ⟨N, hN⟩ : ∃ N : Nat, n = (N : Int) := ⟨n.toNat, by omega⟩
  obtain ⟨k, hk⟩ := top_some N (by omega)
  have hk6 := top_le hk (by omega)
  by_cases hsm : n < 1000
  · obtain rfl := top_zero hk (by omega)
    by_cases hwid : width < 256
    · exact cuts_aa F level n N width w hF hN hn0 hsm hk hl0 hl1 hw0 hw1 hT hwid
    · exact cuts_ba F level n N width w hF hN hn0 hsm hk hl0 hl1 hw0 hw1 hT hwid
  · obtain ⟨j, rfl, hj⟩ := top_cut hk (by omega)
    by_cases hwid : width < 256
    · exact cuts_ab F level n N j width w hF hN (by omega) hn1 hk hj (by omega) hl0 hl1 hw0 hw1 hT hwid
    · exact cuts_bb F level n N j width w hF hN (by omega) hn1 hk hj (by omega) hl0 hl1 hw0 hw1 hT hwid
end Go.Proofs.Qxb6628470aFmt
