/- Plain lists and numbers for codeOrder: no Go in sight. -/
namespace Go.Proofs.Qxb6602643a

/-- how many of the first j values have length l -/
def cntTo (L : Nat → Nat) (l : Nat) : Nat → Nat
  | 0 => 0
  | j + 1 => cntTo L l j + if L j = l then 1 else 0

theorem cntTo_le (L : Nat → Nat) (l : Nat) (j : Nat) : cntTo L l j ≤ j := by
  induction j with
  | zero => simp [cntTo]
  | succ j ih => simp only [cntTo]; split <;> omega

theorem cntTo_mono (L : Nat → Nat) (l : Nat) (i j : Nat) (h : i ≤ j) : cntTo L l i ≤ cntTo L l j := by
  induction j with
  | zero => have : i = 0 := by omega
            subst this; exact Nat.le_refl _
  | succ j ih =>
    by_cases e : i = j + 1
    · subst e; exact Nat.le_refl _
    · have := ih (by omega)
      simp only [cntTo]; omega

theorem cntTo_lt (L : Nat → Nat) (l c j : Nat) (hc : c < j) (h : L c = l) : cntTo L l c < cntTo L l j := by
  have := cntTo_mono L l (c + 1) j (by omega)
  simp only [cntTo, h, if_true] at this
  omega

/-- the values of length at most d, none of length 0 -/
def lonT (L : Nat → Nat) : Nat → Nat
  | 0 => 0
  | d + 1 => lonT L d + cntTo L (d + 1) 256

theorem lonT_mono (L : Nat → Nat) (d e : Nat) (h : d ≤ e) : lonT L d ≤ lonT L e := by
  induction e with
  | zero => have : d = 0 := by omega
            subst this; exact Nat.le_refl _
  | succ e ih =>
    by_cases x : d = e + 1
    · subst x; exact Nat.le_refl _
    · have := ih (by omega)
      simp only [lonT]; omega

/-- how many of the first j values have a length in 1 .. d -/
def cleTo (L : Nat → Nat) (d : Nat) : Nat → Nat
  | 0 => 0
  | j + 1 => cleTo L d j + if 1 ≤ L j ∧ L j ≤ d then 1 else 0

theorem cleTo_le (L : Nat → Nat) (d j : Nat) : cleTo L d j ≤ j := by
  induction j with
  | zero => simp [cleTo]
  | succ j ih => simp only [cleTo]; split <;> omega

theorem cleTo_zero (L : Nat → Nat) (j : Nat) : cleTo L 0 j = 0 := by
  induction j with
  | zero => rfl
  | succ j ih => simp only [cleTo, ih]; rw [if_neg (by omega)]

theorem cleTo_succ (L : Nat → Nat) (d j : Nat) : cleTo L (d + 1) j = cleTo L d j + cntTo L (d + 1) j := by
  induction j with
  | zero => rfl
  | succ j ih =>
    simp only [cleTo, cntTo, ih]
    by_cases h : L j = d + 1
    · rw [if_pos h, if_pos (by omega), if_neg (by omega)]; omega
    · rw [if_neg h]
      by_cases h2 : 1 ≤ L j ∧ L j ≤ d
      · rw [if_pos h2, if_pos (by omega)]; omega
      · rw [if_neg h2, if_neg (by omega)]; omega

theorem lonT_eq (L : Nat → Nat) (d : Nat) : lonT L d = cleTo L d 256 := by
  induction d with
  | zero => exact (cleTo_zero L 256).symm
  | succ d ih => simp only [lonT, ih, cleTo_succ]

theorem lonT_le (L : Nat → Nat) (d : Nat) : lonT L d ≤ 256 := by
  rw [lonT_eq]; exact cleTo_le L d 256

/-- the first j values that have length l, ascending -/
def rowTo (L : Nat → Nat) (l : Nat) : Nat → List Nat
  | 0 => []
  | j + 1 => rowTo L l j ++ if L j = l then [j] else []

theorem rowTo_length (L : Nat → Nat) (l j : Nat) : (rowTo L l j).length = cntTo L l j := by
  induction j with
  | zero => rfl
  | succ j ih => simp only [rowTo, cntTo, List.length_append, ih]; split <;> rfl

theorem rowTo_mem (L : Nat → Nat) (l j c : Nat) : c ∈ rowTo L l j ↔ c < j ∧ L c = l := by
  induction j with
  | zero => simp [rowTo]
  | succ j ih =>
    simp only [rowTo, List.mem_append, ih]
    by_cases h : L j = l
    · simp only [h, if_true, List.mem_singleton]
      constructor
      · rintro (⟨h1, h2⟩ | rfl)
        · exact ⟨by omega, h2⟩
        · exact ⟨by omega, h⟩
      · rintro ⟨h1, h2⟩
        by_cases e : c = j
        · exact .inr e
        · exact .inl ⟨by omega, h2⟩
    · simp only [h, if_false, List.not_mem_nil, or_false]
      constructor
      · rintro ⟨h1, h2⟩; exact ⟨by omega, h2⟩
      · rintro ⟨h1, h2⟩
        refine ⟨?_, h2⟩
        by_cases e : c = j
        · subst e; exact absurd h2 h
        · omega

theorem rowTo_get (L : Nat → Nat) (l j c : Nat) (hc : c < j) (h : L c = l) : (rowTo L l j)[cntTo L l c]? = some c := by
  induction j with
  | zero => omega
  | succ j ih =>
    simp only [rowTo]
    by_cases e : c = j
    · subst e
      rw [if_pos h, List.getElem?_append_right (by rw [rowTo_length]; exact Nat.le_refl _), rowTo_length]
      simp
    · rw [List.getElem?_append_left (by rw [rowTo_length]; exact cntTo_lt L l c j (by omega) h)]
      exact ih (by omega)

theorem cntTo_onto (L : Nat → Nat) (l j i : Nat) (h : i < cntTo L l j) : ∃ c, c < j ∧ L c = l ∧ cntTo L l c = i := by
  induction j with
  | zero => simp [cntTo] at h
  | succ j ih =>
    by_cases h2 : i < cntTo L l j
    · obtain ⟨c, a, b, d⟩ := ih h2
      exact ⟨c, by omega, b, d⟩
    · simp only [cntTo] at h
      by_cases e : L j = l
      · rw [if_pos e] at h
        exact ⟨j, by omega, e, by omega⟩
      · rw [if_neg e] at h; omega

/-- the values of length 1 .. d, by length and then by value -/
def ordL (L : Nat → Nat) : Nat → List Nat
  | 0 => []
  | d + 1 => ordL L d ++ rowTo L (d + 1) 256

theorem ordL_length (L : Nat → Nat) (d : Nat) : (ordL L d).length = lonT L d := by
  induction d with
  | zero => rfl
  | succ d ih => simp only [ordL, lonT, List.length_append, ih, rowTo_length]

theorem ordL_mem (L : Nat → Nat) (d c : Nat) : c ∈ ordL L d ↔ c < 256 ∧ 1 ≤ L c ∧ L c ≤ d := by
  induction d with
  | zero => simp [ordL]; omega
  | succ d ih =>
    simp only [ordL, List.mem_append, ih, rowTo_mem]
    constructor
    · rintro (⟨a, b, x⟩ | ⟨a, b⟩)
      · exact ⟨a, b, by omega⟩
      · exact ⟨a, by omega, by omega⟩
    · rintro ⟨a, b, x⟩
      by_cases e : L c = d + 1
      · exact .inr ⟨a, e⟩
      · exact .inl ⟨a, b, by omega⟩

/-- where value c stands in that order -/
def posT (L : Nat → Nat) (c : Nat) : Nat := lonT L (L c - 1) + cntTo L (L c) c

theorem ordL_get (L : Nat → Nat) (d c : Nat) (hc : c < 256) (h1 : 1 ≤ L c) (hd : L c ≤ d) : (ordL L d)[posT L c]? = some c := by
  induction d with
  | zero => omega
  | succ d ih =>
    simp only [ordL]
    have hlt := cntTo_lt L (L c) c 256 hc rfl
    by_cases e : L c = d + 1
    · have hp : posT L c = lonT L d + cntTo L (d + 1) c := by unfold posT; rw [e]; rfl
      rw [hp, List.getElem?_append_right (by rw [ordL_length]; omega), ordL_length]
      rw [show lonT L d + cntTo L (d + 1) c - lonT L d = cntTo L (d + 1) c from by omega]
      exact rowTo_get L (d + 1) 256 c hc e
    · have hp : posT L c < lonT L d := by
        have m := lonT_mono L (L c) d (by omega)
        have : lonT L (L c) = lonT L (L c - 1) + cntTo L (L c) 256 := by
          obtain ⟨k, hk⟩ : ∃ k, L c = k + 1 := ⟨L c - 1, by omega⟩
          rw [hk]; rfl
        unfold posT; omega
      rw [List.getElem?_append_left (by rw [ordL_length]; exact hp)]
      exact ih (by omega)

theorem posT_lt (L : Nat → Nat) (d c : Nat) (hc : c < 256) (h1 : 1 ≤ L c) (hd : L c ≤ d) : posT L c < lonT L d := by
  have := (List.getElem?_eq_some_iff.1 (ordL_get L d c hc h1 hd)).1
  rwa [ordL_length] at this

theorem posT_inj (L : Nat → Nat) (c e : Nat) (hc : c < 256) (h1 : 1 ≤ L c) (he : e < 256) (h2 : 1 ≤ L e) (h : posT L c = posT L e) : c = e := by
  have a := ordL_get L (L c + L e) c hc h1 (by omega)
  have b := ordL_get L (L c + L e) e he h2 (by omega)
  rw [h, b] at a
  exact (Option.some.inj a).symm

theorem posT_onto (L : Nat → Nat) (d i : Nat) (h : i < lonT L d) : ∃ c, c < 256 ∧ 1 ≤ L c ∧ L c ≤ d ∧ posT L c = i := by
  induction d with
  | zero => simp [lonT] at h
  | succ d ih =>
    by_cases h2 : i < lonT L d
    · obtain ⟨c, a, b, e, f⟩ := ih h2
      exact ⟨c, a, b, by omega, f⟩
    · simp only [lonT] at h
      obtain ⟨c, a, b, e⟩ := cntTo_onto L (d + 1) 256 (i - lonT L d) (by omega)
      refine ⟨c, a, by omega, by omega, ?_⟩
      unfold posT
      rw [b, e]
      show lonT L d + _ = i
      omega

/-- a row whose cells are c at c's place, for every c, is the order -/
theorem ordL_of_pos (L : Nat → Nat) (d : Nat) (O : Nat → Nat) (h : ∀ c, c < 256 → 1 ≤ L c → L c ≤ d → O (posT L c) = c) (i : Nat) (hi : i < lonT L d) : O i = (ordL L d).getD i 0 := by
  obtain ⟨c, a, b, e, rfl⟩ := posT_onto L d i hi
  rw [h c a b e, List.getD_eq_getElem?_getD, ordL_get L d c a b e]
  rfl

end Go.Proofs.Qxb6602643a
