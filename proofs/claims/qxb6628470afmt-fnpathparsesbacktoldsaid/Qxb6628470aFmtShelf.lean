/-
  SEAT b6628470aF. strconv.Itoa's CONTRACT AT THIS DUMP (the shelf's laying, in plain words, by the kit's lay-shelf and lay-plain), and the table of powers of ten that it reads.
-/
import Derived.Test.Qxb6628470aFmtFacts
import Derived.WalkSmall
import Derived.Lib.LaidTab
import Derived.Lib.ItoaNum
import Derived.Lib.AppendIntMem
import Derived.Shelf.LaysM
import Derived.Shelf.Strconv.Itoa3
namespace Go.Proofs.Qxb6628470aFmt
open Go Go.RowKit Go.Shelf

/-- The name of the table of powers of ten: the first that the row names. -/
def powName : String := Rows.fnPathParsesBackRow.named.headD "none"
theorem powGlobal : Tryf.prog.globalNamed powName = some 0 := by kernel_rfl

/-- The table of powers of ten lies as the program's text lays it. -/
def Tab (w : World) : Prop := Lib.TabIs Tryf.prog w powName .u64 Lib.pow10Tab

theorem Tab.below {w w' : World} (h : Tab w) (hb : Below w.heap.size w w') : Tab w' := by
  have hc := Lib.TabIs.cell h powGlobal 0 (by rw [Lib.pow10Tab_length]; decide)
  exact var?_below hb powGlobal (block_lt_of_cell hc) h

def laysItoa_ren : Go.Shelf.Ren := ⟨fun | 171 => 10 | 243 => 13 | 246 => 14 | 283 => 15 | 284 => 16 | 285 => 17 | 286 => 18 | 129 => 20 | 317 => 19 | 318 => 21 | 319 => 22 | 320 => 23 | 337 => 24 | 338 => 25 | n => n, fun | 3 => 3 | 9 => 9 | 2 => 2 | 4 => 4 | 171 => 37 | 0 => 0 | 53 => 22 | 37 => 38 | 5 => 5 | 173 => 43 | 212 => 47 | 51 => 48 | 20 => 20 | 213 => 49 | 46 => 36 | 232 => 53 | 233 => 54 | n => n, fun | 17 => 0 | 18 => 1 | 19 => 2 | n => n⟩
theorem laysItoa : Go.Proofs.LaysM.n171 Tryf.prog laysItoa_ren := {
  mixed := by kernel_rfl
  f129 := Tryf.func20.trans (congrArg some (by kernel_rfl))
  f171 := Tryf.func10.trans (congrArg some (by kernel_rfl))
  f243 := Tryf.func13.trans (congrArg some (by kernel_rfl))
  f246 := Tryf.func14.trans (congrArg some (by kernel_rfl))
  f283 := Tryf.func15.trans (congrArg some (by kernel_rfl))
  f284 := Tryf.func16.trans (congrArg some (by kernel_rfl))
  f285 := Tryf.func17.trans (congrArg some (by kernel_rfl))
  f286 := Tryf.func18.trans (congrArg some (by kernel_rfl))
  f317 := Tryf.func19.trans (congrArg some (by kernel_rfl))
  f318 := Tryf.func21.trans (congrArg some (by kernel_rfl))
  f319 := Tryf.func22.trans (congrArg some (by kernel_rfl))
  f320 := Tryf.func23.trans (congrArg some (by kernel_rfl))
  f337 := Tryf.func24.trans (congrArg some (by kernel_rfl))
  f338 := Tryf.func25.trans (congrArg some (by kernel_rfl))
  t0 := Tryf.underlying0
  a0 := Tryf.isAgg0
  z0 := Tryf.sizeOf0
  v0 := Tryf.zeroValue0
  t2 := Tryf.underlying2
  a2 := Tryf.isAgg2
  z2 := Tryf.sizeOf2
  v2 := Tryf.zeroValue2
  t3 := Tryf.underlying3
  a3 := Tryf.isAgg3
  z3 := Tryf.sizeOf3
  v3 := Tryf.zeroValue3
  t4 := Tryf.underlying4
  a4 := Tryf.isAgg4
  z4 := Tryf.sizeOf4
  v4 := Tryf.zeroValue4
  t5 := Tryf.underlying5
  a5 := Tryf.isAgg5
  z5 := Tryf.sizeOf5
  v5 := Tryf.zeroValue5
  t9 := Tryf.underlying9
  a9 := Tryf.isAgg9
  z9 := Tryf.sizeOf9
  v9 := Tryf.zeroValue9
  t20 := Tryf.underlying20
  a20 := Tryf.isAgg20
  z20 := Tryf.sizeOf20
  v20 := Tryf.zeroValue20
  t37 := Tryf.underlying38
  a37 := Tryf.isAgg38
  z37 := Tryf.sizeOf38
  v37 := Tryf.zeroValue38
  t46 := Tryf.underlying36
  a46 := Tryf.isAgg36
  z46 := Tryf.sizeOf36
  v46 := Tryf.zeroValue36
  t51 := Tryf.underlying48
  a51 := Tryf.isAgg48
  z51 := Tryf.sizeOf48
  v51 := Tryf.zeroValue48
  t53 := Tryf.underlying22
  a53 := Tryf.isAgg22
  z53 := Tryf.sizeOf22
  v53 := Tryf.zeroValue22
  t171 := Tryf.underlying37
  a171 := Tryf.isAgg37
  z171 := Tryf.sizeOf37
  v171 := Tryf.zeroValue37
  t173 := Tryf.underlying43
  a173 := Tryf.isAgg43
  z173 := Tryf.sizeOf43
  v173 := Tryf.zeroValue43
  t212 := Tryf.underlying47
  a212 := Tryf.isAgg47
  z212 := Tryf.sizeOf47
  v212 := Tryf.zeroValue47
  t213 := Tryf.underlying49
  a213 := Tryf.isAgg49
  z213 := Tryf.sizeOf49
  t232 := Tryf.underlying53
  a232 := Tryf.isAgg53
  z232 := Tryf.sizeOf53
  v232 := Tryf.zeroValue53
  t233 := Tryf.underlying54
  a233 := Tryf.isAgg54
  z233 := Tryf.sizeOf54
  v233 := Tryf.zeroValue54
  g17 := by kernel_rfl
  g18 := by kernel_rfl
  g19 := by kernel_rfl
  i0 := by kernel_rfl
  i2 := by kernel_rfl
  i3 := by kernel_rfl
  i4 := by kernel_rfl
  i5 := by kernel_rfl
  i9 := by kernel_rfl
  i20 := by kernel_rfl
  i37 := by kernel_rfl
  i46 := by kernel_rfl
  i51 := by kernel_rfl
  i53 := by kernel_rfl
  i171 := by kernel_rfl
  i173 := by kernel_rfl
  i212 := by kernel_rfl
  i232 := by kernel_rfl
  i233 := by kernel_rfl
  m17 := by kernel_rfl
  m18 := by kernel_rfl
  m19 := by kernel_rfl }

theorem itoa_any (n : Int) (h0 : -9223372036854775808 ≤ n) (h1 : n ≤ 9223372036854775807) (w : World) (hT : Tab w) :
    Calls Tryf.prog 10 #[.int .i64 n] w fun e w' => e = .returned (.string (S (Lib.itoa n))) ∧ Below w.heap.size w w' := by
  refine (Any.strconv_Itoa laysItoa n h0 h1 w hT).mono ?_
  rintro e w' ⟨rfl, k, os, rfl⟩
  exact ⟨rfl, Lib.below_grow _ w (Nat.le_refl _) k os⟩
end Go.Proofs.Qxb6628470aFmt
