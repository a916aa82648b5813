/- Plain numbers for newShape: canonical codes as Kraft sums. No Go in sight. -/
import Derived.Test.Qxb6602643aCoPlain
namespace Go.Proofs.Qxb6602643a

/-! ### sums -/
def sumF (f : Nat → Nat) : Nat → Nat
  | 0 => 0
  | m + 1 => sumF f m + f m

theorem sumF_congr {f g : Nat → Nat} (m : Nat) (h : ∀ i, i < m → f i = g i) : sumF f m = sumF g m := by
  induction m with
  | zero => rfl
  | succ m ih => simp only [sumF]; rw [ih (fun i hi => h i (by omega)), h m (by omega)]

theorem sumF_add (f g : Nat → Nat) (m : Nat) : sumF (fun i => f i + g i) m = sumF f m + sumF g m := by
  induction m with
  | zero => rfl
  | succ m ih => simp only [sumF, ih]; omega

theorem sumF_zero (m : Nat) : sumF (fun _ => 0) m = 0 := by
  induction m with
  | zero => rfl
  | succ m ih => simp only [sumF, ih]

theorem sumF_le (f : Nat → Nat) (i m : Nat) (h : i ≤ m) : sumF f i ≤ sumF f m := by
  induction m with
  | zero => have : i = 0 := by omega
            subst this; exact Nat.le_refl _
  | succ m ih =>
    by_cases e : i = m + 1
    · subst e; exact Nat.le_refl _
    · have := ih (by omega); simp only [sumF]; omega

theorem sumF_list (g : Nat → Nat) (l : List Nat) (m : Nat) (hm : m ≤ l.length) : sumF (fun i => g (l.getD i 0)) m = ((l.take m).map g).sum := by
  induction m with
  | zero => rfl
  | succ m ih =>
    simp only [sumF]
    rw [ih (by omega), List.take_succ_eq_append_getElem (by omega), List.map_append, List.sum_append]
    have e : l.getD m 0 = l[m] := by rw [List.getD_eq_getElem?_getD, List.getElem?_eq_getElem (by omega)]; rfl
    rw [e]
    simp only [List.map_cons, List.map_nil, List.sum_cons, List.sum_nil, Nat.add_zero]

theorem sum_rowTo (g : Nat → Nat) (L : Nat → Nat) (l j : Nat) : ((rowTo L l j).map g).sum = sumF (fun c => if L c = l then g c else 0) j := by
  induction j with
  | zero => rfl
  | succ j ih =>
    simp only [rowTo, sumF, List.map_append, List.sum_append, ih]
    by_cases h : L j = l
    · simp [h]
    · simp [h]

theorem sum_ordL (g : Nat → Nat) (L : Nat → Nat) (d : Nat) : ((ordL L d).map g).sum = sumF (fun c => if 1 ≤ L c ∧ L c ≤ d then g c else 0) 256 := by
  induction d with
  | zero =>
    show 0 = _
    rw [sumF_congr (g := fun _ => 0) 256 (fun c _ => by rw [if_neg (by omega)]), sumF_zero]
  | succ d ih =>
    simp only [ordL, List.map_append, List.sum_append, ih, sum_rowTo]
    rw [← sumF_add]
    refine sumF_congr 256 (fun c _ => ?_)
    by_cases h : L c = d + 1
    · rw [if_pos h, if_neg (by omega), if_pos (by omega)]; omega
    · rw [if_neg h]
      by_cases h2 : 1 ≤ L c ∧ L c ≤ d
      · rw [if_pos h2, if_pos (by omega)]; omega
      · rw [if_neg h2, if_neg (by omega)]

/-! ### positions in the order -/
def oc (L : Nat → Nat) (i : Nat) : Nat := (ordL L 32).getD i 0
def ol (L : Nat → Nat) (i : Nat) : Nat := L (oc L i)

theorem oc_posT (L : Nat → Nat) (c : Nat) (hc : c < 256) (h1 : 1 ≤ L c) (h2 : L c ≤ 32) : oc L (posT L c) = c := by
  unfold oc
  rw [List.getD_eq_getElem?_getD, ordL_get L 32 c hc h1 h2]; rfl

theorem oc_facts (L : Nat → Nat) (i : Nat) (h : i < lonT L 32) : oc L i < 256 ∧ 1 ≤ ol L i ∧ ol L i ≤ 32 ∧ posT L (oc L i) = i := by
  obtain ⟨c, h1, h2, h3, rfl⟩ := posT_onto L 32 i h
  unfold ol
  rw [oc_posT L c h1 h2 h3]
  exact ⟨h1, h2, h3, rfl⟩

theorem posT_between (L : Nat → Nat) (c : Nat) (hc : c < 256) (h1 : 1 ≤ L c) : lonT L (L c - 1) ≤ posT L c ∧ posT L c < lonT L (L c) := by
  have := posT_lt L (L c) c hc h1 (Nat.le_refl _)
  refine ⟨?_, this⟩
  unfold posT; omega

theorem lon_le_iff (L : Nat → Nat) (i d : Nat) (h : i < lonT L 32) : lonT L d ≤ i ↔ d < ol L i := by
  obtain ⟨h1, h2, h3, h4⟩ := oc_facts L i h
  have hb := posT_between L (oc L i) h1 h2
  rw [h4] at hb
  constructor
  · intro hd
    by_cases e : d < ol L i
    · exact e
    · have := lonT_mono L (ol L i) d (by omega)
      unfold ol at this
      omega
  · intro hd
    have := lonT_mono L d (ol L i - 1) (by omega)
    unfold ol at this
    omega

theorem ol_mono (L : Nat → Nat) (i j : Nat) (h : i ≤ j) (hj : j < lonT L 32) : ol L i ≤ ol L j := by
  have hi : i < lonT L 32 := by omega
  have a := lon_le_iff L i (ol L i - 1) hi
  have b := lon_le_iff L j (ol L i - 1) hj
  have hf := oc_facts L i hi
  have : lonT L (ol L i - 1) ≤ i := a.2 (by omega)
  have := b.1 (by omega)
  omega

theorem sumF_oc (L : Nat → Nat) (hL : ∀ c, c < 256 → L c ≤ 32) (g : Nat → Nat) : sumF (fun i => g (oc L i)) (lonT L 32) = sumF (fun c => if 1 ≤ L c then g c else 0) 256 := by
  have h := sumF_list g (ordL L 32) (lonT L 32) (by rw [ordL_length]; exact Nat.le_refl _)
  rw [List.take_of_length_le (by rw [ordL_length]; exact Nat.le_refl _), sum_ordL] at h
  refine Eq.trans h (sumF_congr 256 (fun c hc => ?_))
  have := hL c hc
  by_cases e : 1 ≤ L c
  · rw [if_pos e, if_pos (by omega)]
  · rw [if_neg e, if_neg (by omega)]

/-! ### Kraft sums -/
def SK (L : Nat → Nat) (i : Nat) : Nat := sumF (fun j => 2 ^ (32 - ol L j)) i
theorem SK_succ (L : Nat → Nat) (i : Nat) : SK L (i + 1) = SK L i + 2 ^ (32 - ol L i) := rfl
theorem SK_zero (L : Nat → Nat) : SK L 0 = 0 := rfl
theorem SK_mono (L : Nat → Nat) (i j : Nat) (h : i ≤ j) : SK L i ≤ SK L j := sumF_le _ i j h
theorem SK_lt (L : Nat → Nat) (i j : Nat) (h : i < j) : SK L i + 2 ^ (32 - ol L i) ≤ SK L j := by
  rw [← SK_succ]; exact SK_mono L _ _ (by omega)

theorem pow_dvd32 {a b : Nat} (h : a ≤ b) : 2 ^ (32 - b) ∣ 2 ^ (32 - a) := Nat.pow_dvd_pow 2 (by omega)

theorem dvd_SK (L : Nat → Nat) (d m : Nat) (h : ∀ j, j < m → ol L j ≤ d) : 2 ^ (32 - d) ∣ SK L m := by
  induction m with
  | zero => rw [SK_zero]; exact Nat.dvd_zero _
  | succ m ih =>
    rw [SK_succ]
    exact Nat.dvd_add (ih (fun j hj => h j (by omega))) (pow_dvd32 (h m (by omega)))

theorem dvd_SK_at (L : Nat → Nat) (i : Nat) (hi : i < lonT L 32) : 2 ^ (32 - ol L i) ∣ SK L i :=
  dvd_SK L _ _ (fun j hj => ol_mono L j i (by omega) hi)

theorem dvd_SK_lon (L : Nat → Nat) (d : Nat) (hd : d ≤ 32) : 2 ^ (32 - d) ∣ SK L (lonT L d) := by
  refine dvd_SK L _ _ (fun j hj => ?_)
  have hj' : j < lonT L 32 := Nat.lt_of_lt_of_le hj (lonT_mono L d 32 hd)
  have := lon_le_iff L j d hj'
  omega

/-- the prefix of d bits of position q's code -/
def pr (L : Nat → Nat) (q d : Nat) : Nat := SK L q / 2 ^ (32 - d)

theorem two_pos (k : Nat) : 0 < 2 ^ k := Nat.pow_pos (by omega)

theorem pr_mono (L : Nat → Nat) (q r d : Nat) (h : q ≤ r) : pr L q d ≤ pr L r d := Nat.div_le_div_right (SK_mono L q r h)

theorem pow_le {a b : Nat} (h : a ≤ b) : 2 ^ a ≤ 2 ^ b := Nat.pow_le_pow_right (by omega) h

theorem pr_step (L : Nat → Nat) (q d : Nat) (hd : d < ol L q) : pr L (q + 1) d ≤ pr L q d + 1 := by
  unfold pr
  rw [SK_succ]
  have h := pow_le (a := 32 - ol L q) (b := 32 - d) (by omega)
  have : (SK L q + 2 ^ (32 - ol L q)) / 2 ^ (32 - d) ≤ (SK L q + 2 ^ (32 - d)) / 2 ^ (32 - d) := Nat.div_le_div_right (by omega)
  rwa [Nat.add_div_right _ (two_pos _)] at this

theorem pr_exact (L : Nat → Nat) (i : Nat) (hi : i < lonT L 32) : pr L i (ol L i) * 2 ^ (32 - ol L i) = SK L i := Nat.div_mul_cancel (dvd_SK_at L i hi)

theorem pr_exact_lon (L : Nat → Nat) (d : Nat) (hd : d ≤ 32) : pr L (lonT L d) d * 2 ^ (32 - d) = SK L (lonT L d) := Nat.div_mul_cancel (dvd_SK_lon L d hd)

theorem pow_split {a b c : Nat} (h : a = b + c) : 2 ^ a = 2 ^ b * 2 ^ c := by rw [h, Nat.pow_add]

/-- a code's prefix, by a shift -/
theorem pr_shift (L : Nat → Nat) (i e d : Nat) (he : e ≤ 32) (hd : d ≤ e) : pr L i e / 2 ^ (e - d) = pr L i d := by
  unfold pr
  rw [Nat.div_div_eq_div_mul, ← Nat.pow_add]
  congr 2
  omega

theorem pr_bit (L : Nat → Nat) (i d : Nat) (hd : d < 32) : pr L i (d + 1) = 2 * pr L i d + pr L i (d + 1) % 2 := by
  have h := pr_shift L i (d + 1) d (by omega) (by omega)
  rw [show d + 1 - d = 1 from by omega] at h
  omega

/-- the next code: the one before plus 1, shifted -/
theorem code_next (L : Nat → Nat) (i : Nat) (hi : i + 1 < lonT L 32) : pr L (i + 1) (ol L (i + 1)) = (pr L i (ol L i) + 1) * 2 ^ (ol L (i + 1) - ol L i) := by
  have hm := ol_mono L i (i + 1) (by omega) hi
  have hf := oc_facts L (i + 1) hi
  have h1 := pr_exact L (i + 1) hi
  have h0 := pr_exact L i (by omega)
  have hs : (pr L i (ol L i) + 1) * 2 ^ (32 - ol L i) = SK L (i + 1) := by
    rw [SK_succ, Nat.add_mul, h0, Nat.one_mul]
  rw [pow_split (a := 32 - ol L i) (b := ol L (i + 1) - ol L i) (c := 32 - ol L (i + 1)) (by omega), ← Nat.mul_assoc] at hs
  rw [← hs] at h1
  exact Nat.eq_of_mul_eq_mul_right (two_pos _) h1

theorem code_zero (L : Nat → Nat) (d : Nat) : pr L 0 d = 0 := by unfold pr; rw [SK_zero, Nat.zero_div]

/-- a prefix of d bits fits d bits -/
theorem pr_lt (L : Nat → Nat) (q d : Nat) (hK : SK L (lonT L 32) ≤ 2 ^ 32) (hq : q < lonT L 32) (hd : d ≤ 32) : pr L q d < 2 ^ d := by
  unfold pr
  rw [Nat.div_lt_iff_lt_mul (two_pos _), ← Nat.pow_add, show d + (32 - d) = 32 from by omega]
  have := SK_lt L q _ hq
  have := two_pos (32 - ol L q)
  omega

end Go.Proofs.Qxb6602643a
