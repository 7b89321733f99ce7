/-
  SEAT b6630560a. THE PLAIN MATHEMATICS: two versions compared from their largest replica down; no Go in sight.
  A version is told by two functions (its replicas r, its counts s) and a number of entries. 'pre r s n': its first n entries, the last one ahead.
-/
namespace Go.Proofs.Qxb6630560a

def sg (a b : Int) : Int := if a < b then -1 else if b < a then 1 else 0

def cmpR : List (Int × Int) → List (Int × Int) → Int
  | [], [] => 0
  | [], _ :: _ => -1
  | _ :: _, [] => 1
  | x :: v, y :: o => if x.1 = y.1 then (if x.2 = y.2 then cmpR v o else sg x.2 y.2) else sg x.1 y.1

def pre (r s : Nat → Int) : Nat → List (Int × Int)
  | 0 => []
  | n + 1 => (r n, s n) :: pre r s n

/-- Replicas strictly ascending, every count above 0. -/
def Valid (r s : Nat → Int) (n : Nat) : Prop := (∀ i, i < n → 0 < s i) ∧ ∀ i, i + 1 < n → r i < r (i + 1)

theorem Valid.lt {r s : Nat → Int} {n : Nat} (h : Valid r s n) : ∀ (j i : Nat), i < j → j < n → r i < r j
  | 0, i, hij, _ => by omega
  | j + 1, i, hij, hj => by
    have h1 := h.2 j hj
    by_cases e : i = j
    · subst e; exact h1
    · have := Valid.lt h j i (by omega) (by omega)
      omega

theorem sg_anti (a b : Int) : sg a b = - sg b a := by
  unfold sg; split <;> split <;> omega

theorem sg_range (a b : Int) : -1 ≤ sg a b ∧ sg a b ≤ 1 := by
  unfold sg; split <;> (try split) <;> omega

theorem sg_pos {a b : Int} (h : b < a) : sg a b = 1 := by unfold sg; rw [if_neg (by omega), if_pos h]
theorem sg_neg {a b : Int} (h : a < b) : sg a b = -1 := by unfold sg; rw [if_pos h]

theorem cmpR_anti : ∀ (v o : List (Int × Int)), cmpR v o = - cmpR o v
  | [], [] => rfl
  | [], _ :: _ => rfl
  | _ :: _, [] => rfl
  | x :: v, y :: o => by
    simp only [cmpR]
    by_cases h : x.1 = y.1
    · rw [if_pos h, if_pos h.symm]
      by_cases h2 : x.2 = y.2
      · rw [if_pos h2, if_pos h2.symm]; exact cmpR_anti v o
      · rw [if_neg h2, if_neg (Ne.symm h2)]; exact sg_anti _ _
    · rw [if_neg h, if_neg (Ne.symm h)]; exact sg_anti _ _

theorem cmpR_range : ∀ (v o : List (Int × Int)), -1 ≤ cmpR v o ∧ cmpR v o ≤ 1
  | [], [] => by decide
  | [], _ :: _ => by simp [cmpR]
  | _ :: _, [] => by simp [cmpR]
  | x :: v, y :: o => by
    simp only [cmpR]
    split
    · split
      · exact cmpR_range v o
      · exact sg_range _ _
    · exact sg_range _ _

section
variable {rv sv ro so : Nat → Int}

/-- The next entry of the left one is of a larger replica than all that the right one has shown. -/
theorem cmp_left (i j : Nat) (h : 0 < j → ro (j - 1) < rv i) : cmpR (pre rv sv (i + 1)) (pre ro so j) = 1 := by
  cases j with
  | zero => rfl
  | succ j =>
    have := h (by omega)
    simp only [Nat.add_sub_cancel] at this
    simp only [pre, cmpR]
    rw [if_neg (by omega), sg_pos this]

theorem cmp_right (i j : Nat) (h : 0 < i → rv (i - 1) < ro j) : cmpR (pre rv sv i) (pre ro so (j + 1)) = -1 := by
  rw [cmpR_anti, cmp_left j i h]

theorem cmp_both (i j : Nat) (h : rv i = ro j) : cmpR (pre rv sv (i + 1)) (pre ro so (j + 1)) = if so j < sv i then 1 else if sv i < so j then -1 else cmpR (pre rv sv i) (pre ro so j) := by
  simp only [pre, cmpR]
  rw [if_pos h]
  by_cases h1 : so j < sv i
  · rw [if_pos h1, if_neg (by omega), sg_pos h1]
  · rw [if_neg h1]
    by_cases h2 : sv i < so j
    · rw [if_pos h2, if_neg (by omega), sg_neg h2]
    · rw [if_neg h2, if_pos (by omega)]

/-- One step of Compare's walk from the end. -/
theorem cmp_down (i j : Nat) : cmpR (pre rv sv (i + 1)) (pre ro so (j + 1)) = if rv i = ro j then (if sv i = so j then cmpR (pre rv sv i) (pre ro so j) else sg (sv i) (so j)) else sg (rv i) (ro j) := rfl

/-- Where one of them is through. -/
theorem cmp_end (i j : Nat) (h : i = 0 ∨ j = 0) : cmpR (pre rv sv i) (pre ro so j) = sg ((i : Int) - 1) ((j : Int) - 1) := by
  rcases h with rfl | rfl
  · cases j with
    | zero => rfl
    | succ j => simp only [pre, cmpR]; rw [sg_neg (by omega)]
  · cases i with
    | zero => rfl
    | succ i => simp only [pre, cmpR]; rw [sg_pos (by omega)]

/-- What the ascending walk keeps: what has been taken of either lies below what is left of the other. -/
def Sync (rv ro : Nat → Int) (nv no i j : Nat) : Prop := (0 < i → j < no → rv (i - 1) < ro j) ∧ (0 < j → i < nv → ro (j - 1) < rv i)

theorem Sync.left {nv no i j : Nat} (h : Sync rv ro nv no i j) (hv : Valid rv sv nv) (hi : i < nv) (hlt : j < no → rv i < ro j) : Sync rv ro nv no (i + 1) j := by
  refine ⟨fun _ hj => hlt hj, fun h0 hi' => ?_⟩
  have h1 := h.2 h0 hi
  have h2 := hv.2 i hi'
  omega

theorem Sync.right {nv no i j : Nat} (h : Sync rv ro nv no i j) (ho : Valid ro so no) (hj : j < no) (hlt : i < nv → ro j < rv i) : Sync rv ro nv no i (j + 1) := by
  refine ⟨fun h0 hj' => ?_, fun _ hi => hlt hi⟩
  have h1 := h.1 h0 hj
  have h2 := ho.2 j hj'
  omega

theorem Sync.both {nv no i j : Nat} (hv : Valid rv sv nv) (ho : Valid ro so no) (heq : rv i = ro j) : Sync rv ro nv no (i + 1) (j + 1) := by
  refine ⟨fun _ hj => ?_, fun _ hi => ?_⟩
  · have := ho.2 j hj
    simp only [Nat.add_sub_cancel]; omega
  · have := hv.2 i hi
    simp only [Nat.add_sub_cancel]; omega
end

/-- Every entry of the small one stands in the big one with a count at least as large. -/
def Incl (rb sb : Nat → Int) (nb : Nat) (rs ss : Nat → Int) (ns : Nat) : Prop := ∀ j, j < ns → ∃ i, i < nb ∧ rb i = rs j ∧ ss j ≤ sb i

theorem incl_cmp {rb sb rs ss : Nat → Int} {nb ns : Nat} (hb : Valid rb sb nb) (hs : Valid rs ss ns) : ∀ (m k : Nat), m ≤ nb → k ≤ ns → Incl rb sb m rs ss k → 0 ≤ cmpR (pre rb sb m) (pre rs ss k)
  | 0, 0, _, _, _ => by simp [pre, cmpR]
  | m + 1, 0, _, _, _ => by simp [pre, cmpR]
  | 0, k + 1, _, _, h => by obtain ⟨i, hi, _⟩ := h k (by omega); omega
  | m + 1, k + 1, hm, hk, h => by
    obtain ⟨i, hi, e1, e2⟩ := h k (by omega)
    rw [cmp_down]
    by_cases hr : rb m = rs k
    · have him : i = m := by
        rcases Nat.lt_or_ge i m with hlt | hge
        · have := hb.lt m i hlt (by omega); omega
        · omega
      subst him
      rw [if_pos hr]
      by_cases hss : sb i = ss k
      · rw [if_pos hss]
        refine incl_cmp hb hs i k (by omega) (by omega) fun j hj => ?_
        obtain ⟨i', hi', f1, f2⟩ := h j (by omega)
        refine ⟨i', ?_, f1, f2⟩
        have h1 := hs.lt k j hj (by omega)
        rcases Nat.lt_or_ge i' i with hlt | hge
        · exact hlt
        · have : i' = i := by omega
          subst this; omega
      · rw [if_neg hss, sg_pos (by omega)]; omega
    · rw [if_neg hr]
      have : rs k < rb m := by
        rcases Nat.lt_or_ge i m with hlt | hge
        · have := hb.lt m i hlt (by omega); omega
        · have : i = m := by omega
          subst this; omega
      rw [sg_pos this]; omega

theorem cmp_zero_incl {rb sb rs ss : Nat → Int} : ∀ (m k : Nat), cmpR (pre rb sb m) (pre rs ss k) = 0 → Incl rb sb m rs ss k
  | 0, 0, _ => fun j hj => by omega
  | m + 1, 0, _ => fun j hj => by omega
  | 0, k + 1, h => by simp [pre, cmpR] at h
  | m + 1, k + 1, h => by
    rw [cmp_down] at h
    by_cases hr : rb m = rs k
    · rw [if_pos hr] at h
      by_cases hss : sb m = ss k
      · rw [if_pos hss] at h
        have ih := cmp_zero_incl m k h
        intro j hj
        by_cases hjk : j = k
        · subst hjk; exact ⟨m, by omega, hr, by omega⟩
        · obtain ⟨i, hi, f⟩ := ih j (by omega)
          exact ⟨i, by omega, f⟩
      · rw [if_neg hss] at h
        unfold sg at h
        split at h
        · omega
        · split at h <;> omega
    · rw [if_neg hr] at h
      unfold sg at h
      split at h
      · omega
      · split at h <;> omega

/-- THE SECOND LAW, PLAIN. -/
theorem inclusion_law {rv sv ro so : Nat → Int} {nv no : Nat} (hv : Valid rv sv nv) (ho : Valid ro so no) {sub sup : Bool} (h1 : sub = true ↔ Incl rv sv nv ro so no) (h2 : sup = true ↔ Incl ro so no rv sv nv) :
    (sub = true → sup = true → cmpR (pre rv sv nv) (pre ro so no) = 0) ∧ (sub = true → sup = false → cmpR (pre rv sv nv) (pre ro so no) = 1) ∧
    (sub = false → sup = true → cmpR (pre rv sv nv) (pre ro so no) = -1) ∧ (sub = false → sup = false → cmpR (pre rv sv nv) (pre ro so no) = 1 ∨ cmpR (pre rv sv nv) (pre ro so no) = -1) := by
  have hr := cmpR_range (pre rv sv nv) (pre ro so no)
  have ha := cmpR_anti (pre rv sv nv) (pre ro so no)
  have p1 : sub = true → 0 ≤ cmpR (pre rv sv nv) (pre ro so no) := fun e => incl_cmp hv ho nv no (Nat.le_refl _) (Nat.le_refl _) (h1.1 e)
  have p2 : sup = true → 0 ≤ cmpR (pre ro so no) (pre rv sv nv) := fun e => incl_cmp ho hv no nv (Nat.le_refl _) (Nat.le_refl _) (h2.1 e)
  have z1 : cmpR (pre rv sv nv) (pre ro so no) = 0 → sub = true := fun e => h1.2 (cmp_zero_incl nv no e)
  have z2 : cmpR (pre rv sv nv) (pre ro so no) = 0 → sup = true := fun e => h2.2 (cmp_zero_incl no nv (by omega))
  refine ⟨fun e1 e2 => ?_, fun e1 e2 => ?_, fun e1 e2 => ?_, fun e1 e2 => ?_⟩
  · have := p1 e1; have := p2 e2; omega
  · have := p1 e1
    have : cmpR (pre rv sv nv) (pre ro so no) ≠ 0 := fun h => by rw [z2 h] at e2; cases e2
    omega
  · have := p2 e2
    have : cmpR (pre rv sv nv) (pre ro so no) ≠ 0 := fun h => by rw [z1 h] at e1; cases e1
    omega
  · have : cmpR (pre rv sv nv) (pre ro so no) ≠ 0 := fun h => by rw [z1 h] at e1; cases e1
    omega

end Go.Proofs.Qxb6630560a
