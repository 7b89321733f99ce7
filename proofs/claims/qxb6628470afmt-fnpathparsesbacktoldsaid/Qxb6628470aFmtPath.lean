/-
  SEAT b6628470aF. THE WALK OF Path (function 5): the level, a slash, the groups, the tail; fmt's texts told.
-/
import Derived.Test.Qxb6628470aFmtShelf
import Derived.WalkKit
import Derived.WalkSpells
import Derived.WalkLawsBesides
import Derived.Below
import Derived.Outline
import Derived.Lib.LaidTab
import Derived.Lib.ItoaLen
namespace Go.Proofs.Qxb6628470aFmt
open Go Go.RowKit Go.Extern.Stop Go.Stop Go.Extern
attribute [local go_sem] call9 guardF fmtA fmtAr fmtB fmtBr op22

theorem toldA' (F : Interp) (g : Nat) (h : g < 1000) : FmtStop.textOf (F.told "fmt.Sprintf" [[37, 48, 51, 100], shape22, digits 8 (g % 18446744073709551616)] 0) = S (d3 g) := by
  have := toldA F g h
  rw [readA] at this
  rw [← this]
  congr 6

theorem toldB' (F : Interp) (g : Nat) (h : g < 1000) : FmtStop.textOf (F.told "fmt.Sprintf" [[120, 37, 48, 51, 100, 47], shape22, digits 8 (g % 18446744073709551616)] 0) = S (120 :: (d3 g ++ [47])) := by
  have := toldB F g h
  rw [readB] at this
  rw [← this]
  congr 6

theorem pow_next (N j r : Nat) (h : r = N / 1000 ^ (j + 1)) : r / 1000 = N / 1000 ^ (j + 1 + 1) := by
  rw [h, Nat.pow_succ _ (j + 1), Nat.div_div_eq_div_mul]

theorem top_le {N k : Nat} (h : Top N k) (hN : (N : Int) ≤ 18446744073709551615) : k ≤ 6 := by
  rcases Nat.lt_or_ge 6 k with hlt | hge
  · have := h.2 7 (by omega) (by omega)
    omega
  · exact hge

theorem S_size (l : List UInt8) : (S l).size = l.length := by simp [S, ByteArray.size]

theorem itoa_size (n : Int) (h0 : -9223372036854775808 ≤ n) (h1 : n ≤ 9223372036854775807) : (S (Lib.itoa n)).size ≤ 21 := by
  rw [S_size]; exact Lib.itoa_length_le n h0 h1

set_option maxHeartbeats 800000 in
theorem path_any (F : Interp) (level : Int) (N k : Nat) (width : Int) (w : World) (hF : F.told.answers w.tape) (hN : (N : Int) ≤ 18446744073709551615) (hk : Hid (Top N k))
    (hl0 : -9223372036854775808 ≤ level) (hl1 : level ≤ 9223372036854775807) (hw0 : -9223372036854775808 ≤ width) (hw1 : width ≤ 9223372036854775807) (hT : Tab w) :
    Calls Tryf.prog 5 #[.agg #[.int .i64 level, .int .u64 N, .int .i64 width]] w fun e w' => e = .returned (.string (S (pathL level N k width))) ∧ Below w.heap.size w w' := by
  have hF' := answers_open hF
  go_enter Tryf.func5, Tryf.ntmps5
  go_wp2
  clear hF'
  go_loopw [3, 4] (fun t3 t4 wr => ∃ j r : Nat, j ≤ k ∧ Hid (r = N / 1000 ^ (j + 1)) ∧ (r : Int) ≤ 18446744073709551615 ∧ t4 = .int .u64 r ∧ t3 = .string (S (G N j)) ∧
      Below (w.heap.size + 1) (w.alloc (Obj.cells #[Value.int IntKind.i64 level, Value.int IntKind.u64 ↑N, Value.int IntKind.i64 width] 24)) wr) (fun _ t4 _ => (intOf t4).toNat)
  case atStart => 
    refine ⟨0, N / 1000, Nat.zero_le _, by simp [Hid], by omega, by go_num, ?_, ?_⟩
    · rw [toldA' F _ (Nat.mod_lt _ (by decide))]; rfl
    · exact (((Below.refl _ _).alloc (by simp) _).drew)
  case round =>
    obtain ⟨j, r, hj, hr, hrb, rfl, rfl, hb⟩ := hrel
    have hFr := answers_open (show F.told.answers wr.tape by rw [hb.tape]; exact hF)
    have hk6 := top_le hk.out hN
    have hgs : (S (G N j)).size = 5 * j + 3 := by rw [S_size, G_length]
    by_cases hpos : (0 : Int) < r
    · have hB := toldB' F (r % 1000) (Nat.mod_lt _ (by decide))
      have hts : (S (120 :: (d3 (r % 1000) ++ [47]))).size = 5 := rfl
      have hjk : j < k := by
        rcases Nat.lt_or_ge j k with h | h
        · exact h
        · have e : j = k := by omega
          have h1 := hk.out.1
          have h2 := hr.out
          rw [e] at h2
          omega
      go_wp2
      go_roundw
      case rel => exact ⟨j + 1, r / 1000, by omega, pow_next N j r hr.out, by omega, by go_num, by rw [S_append]; simp [G, hr.out], (hb.alloc (by simpa using hb.size) _).drew⟩
      case measure => simp [intOf]; omega
    · have hjk : j = k := by
        rcases Nat.lt_or_ge j k with h | h
        · have h1 := hk.out.2 (j + 1) (by omega) (by omega)
          have h2 := hr.out
          omega
        · omega
      subst hjk
      have c0 : wr.cell? ⟨w.heap.size, 0, none⟩ = some (.int .i64 level) := by rw [hb.cell (by simp)]; go_simp
      have c2 : wr.cell? ⟨w.heap.size, 2, none⟩ = some (.int .i64 width) := by rw [hb.cell (by simp)]; go_simp
      have hT0 := (hT.below ((Below.refl _ _).alloc (Nat.le_refl _) (Obj.cells #[Value.int IntKind.i64 level, Value.int IntKind.u64 ↑N, Value.int IntKind.i64 width] 24)))
      have hTr := hT0.below (hb.mono (by simp))
      have hil := itoa_size level hl0 hl1
      have hiw := itoa_size width hw0 hw1
      clear hFr
      have hws : w.heap.size < wr.heap.size := by have := hb.size; simp at this; omega
      have hbw : Below w.heap.size w wr := ((Below.refl _ w).alloc (Nat.le_refl _) _).trans (hb.mono (by simp))
      by_cases hw : width < 256
      · go_wp2_with fail
        refine (itoa_any _ hl0 hl1 _ hTr).mono ?_
        rintro e w' ⟨rfl, hb'⟩
        have c2' : w'.cell? ⟨w.heap.size, 2, none⟩ = some (.int .i64 width) := by rw [hb'.cell (p := ⟨w.heap.size, 2, none⟩) hws]; exact c2
        have hT' := hTr.below hb'
        go_wp2_with fail
        refine (itoa_any _ hw0 hw1 _ hT').mono ?_
        rintro e w2 ⟨rfl, hb2⟩
        go_wp2
        go_ret
        refine ⟨?_, hbw.trans ((hb'.trans (hb2.mono hb'.size)).mono (Nat.le_of_lt hws))⟩
        rw [show (⟨#[47]⟩ : ByteArray) = S [47] from rfl, show (⟨#[46, 112, 47]⟩ : ByteArray) = S [46, 112, 47] from rfl, S_append, S_append, S_append, S_append]
        simp [pathL, hw]
      · go_wp2_with fail
        refine (itoa_any _ hl0 hl1 _ hTr).mono ?_
        rintro e w' ⟨rfl, hb'⟩
        have c2' : w'.cell? ⟨w.heap.size, 2, none⟩ = some (.int .i64 width) := by rw [hb'.cell (p := ⟨w.heap.size, 2, none⟩) hws]; exact c2
        go_wp2_with fail
        go_ret
        refine ⟨?_, hbw.trans (hb'.mono (Nat.le_of_lt hws))⟩
        rw [show (⟨#[47]⟩ : ByteArray) = S [47] from rfl, S_append, S_append, pathL, if_neg (by omega)]
        simp
end Go.Proofs.Qxb6628470aFmt
