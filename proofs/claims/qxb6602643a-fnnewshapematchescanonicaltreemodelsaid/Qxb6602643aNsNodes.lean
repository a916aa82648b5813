/- The nodes of the canonical tree, by numbers. No Go in sight. -/
import Derived.Test.Qxb6602643aNsPlain
namespace Go.Proofs.Qxb6602643a

/-- how many nodes there are at depth d -/
def NN (L : Nat → Nat) (d : Nat) : Nat := if lonT L d < lonT L 32 then pr L (lonT L 32 - 1) d - pr L (lonT L d) d + 1 else 0
/-- how many nodes lie ahead of depth d -/
def NB (L : Nat → Nat) : Nat → Nat
  | 0 => 0
  | d + 1 => NB L d + NN L d
/-- the node of position q at depth d -/
def idN (L : Nat → Nat) (q d : Nat) : Nat := NB L d + (pr L q d - pr L (lonT L d) d)

theorem NB_mono (L : Nat → Nat) (d e : Nat) (h : d ≤ e) : NB L d ≤ NB L e := by
  induction e with
  | zero => have : d = 0 := by omega
            subst this; exact Nat.le_refl _
  | succ e ih =>
    by_cases x : d = e + 1
    · subst x; exact Nat.le_refl _
    · have := ih (by omega); simp only [NB]; omega

theorem NB_uniq (L : Nat → Nat) (d e k : Nat) (h1 : NB L d ≤ k) (h2 : k < NB L (d + 1)) (h3 : NB L e ≤ k) (h4 : k < NB L (e + 1)) : d = e := by
  rcases Nat.lt_trichotomy d e with h | h | h
  · have := NB_mono L (d + 1) e (by omega); omega
  · exact h
  · have := NB_mono L (e + 1) d (by omega); omega

theorem pr_between (L : Nat → Nat) (q d : Nat) (hq : q < lonT L 32) (hd : d < ol L q) : pr L (lonT L d) d ≤ pr L q d ∧ pr L q d ≤ pr L (lonT L 32 - 1) d :=
  ⟨pr_mono L _ _ d ((lon_le_iff L q d hq).2 hd), pr_mono L _ _ d (by omega)⟩

theorem lon_lt (L : Nat → Nat) (q d : Nat) (hq : q < lonT L 32) (hd : d < ol L q) : lonT L d < lonT L 32 :=
  Nat.lt_of_le_of_lt ((lon_le_iff L q d hq).2 hd) hq

theorem idN_between (L : Nat → Nat) (q d : Nat) (hq : q < lonT L 32) (hd : d < ol L q) : NB L d ≤ idN L q d ∧ idN L q d < NB L (d + 1) := by
  have h := pr_between L q d hq hd
  have hl := lon_lt L q d hq hd
  simp only [NB, NN, idN, if_pos hl]
  omega

theorem idN_inj (L : Nat → Nat) (q d r e : Nat) (hq : q < lonT L 32) (hd : d < ol L q) (hr : r < lonT L 32) (he : e < ol L r) (h : idN L q d = idN L r e) : d = e ∧ pr L q d = pr L r d := by
  have a := idN_between L q d hq hd
  have b := idN_between L r e hr he
  have hde := NB_uniq L d e (idN L q d) a.1 a.2 (by omega) (by omega)
  subst hde
  have c := pr_between L q d hq hd
  have c' := pr_between L r d hr he
  unfold idN at h
  exact ⟨rfl, by omega⟩

/-- every prefix between the first and the last of a depth is met -/
theorem pr_hit (L : Nat → Nat) (d r p : Nat) (hr : r < lonT L 32) (hl : lonT L d ≤ r) (h1 : pr L (lonT L d) d ≤ p) (h2 : p ≤ pr L r d) : ∃ q, lonT L d ≤ q ∧ q ≤ r ∧ pr L q d = p := by
  induction r with
  | zero => exact ⟨0, hl, Nat.le_refl _, by rw [show lonT L d = 0 from by omega] at h1; omega⟩
  | succ r ih =>
    by_cases e : lonT L d = r + 1
    · exact ⟨r + 1, by omega, Nat.le_refl _, by rw [e] at h1; omega⟩
    · by_cases h3 : p ≤ pr L r d
      · obtain ⟨q, a, b, c⟩ := ih (by omega) (by omega) h3
        exact ⟨q, a, by omega, c⟩
      · have := pr_step L r d ((lon_le_iff L r d (by omega)).1 (by omega))
        exact ⟨r + 1, hl, Nat.le_refl _, by omega⟩

/-- every node is the node of some position at some depth -/
theorem node_hit (L : Nat → Nat) (k m : Nat) (hk : k < NB L m) : ∃ q d, q < lonT L 32 ∧ d < ol L q ∧ d < m ∧ idN L q d = k := by
  induction m with
  | zero => simp [NB] at hk
  | succ m ih =>
    by_cases h : k < NB L m
    · obtain ⟨q, d, a, b, c, e⟩ := ih h
      exact ⟨q, d, a, b, by omega, e⟩
    · simp only [NB] at hk
      by_cases hl : lonT L m < lonT L 32
      · simp only [NN, if_pos hl] at hk
        obtain ⟨q, a, b, c⟩ := pr_hit L m (lonT L 32 - 1) (pr L (lonT L m) m + (k - NB L m)) (by omega) (by omega) (by omega) (by
          have := pr_mono L (lonT L m) (lonT L 32 - 1) m (by omega)
          omega)
        refine ⟨q, m, by omega, (lon_le_iff L q m (by omega)).1 a, by omega, ?_⟩
        unfold idN
        omega
      · simp only [NN, if_neg hl] at hk
        omega

/-- the number of nodes of depth d that m positions have met -/
def cntN (L : Nat → Nat) (d m : Nat) : Nat := if m = 0 then 0 else pr L (lonT L d + m - 1) d - pr L (lonT L d) d + 1

theorem cntN_all (L : Nat → Nat) (d : Nat) (h : lonT L d ≤ lonT L 32) : cntN L d (lonT L 32 - lonT L d) = NN L d := by
  unfold cntN NN
  by_cases hl : lonT L d < lonT L 32
  · rw [if_neg (by omega), if_pos hl, show lonT L d + (lonT L 32 - lonT L d) - 1 = lonT L 32 - 1 from by omega]
  · rw [if_pos (by omega), if_neg hl]

theorem cntN_first (L : Nat → Nat) (d : Nat) : cntN L d 1 = 1 := by
  unfold cntN
  rw [if_neg (by omega), show lonT L d + 1 - 1 = lonT L d from by omega]
  omega

theorem cntN_same (L : Nat → Nat) (d m : Nat) (hm : m ≠ 0) (h : pr L (lonT L d + m) d = pr L (lonT L d + (m - 1)) d) : cntN L d (m + 1) = cntN L d m := by
  unfold cntN
  rw [if_neg (by omega), if_neg hm, show lonT L d + (m + 1) - 1 = lonT L d + m from by omega, show lonT L d + m - 1 = lonT L d + (m - 1) from by omega, h]

theorem cntN_next (L : Nat → Nat) (d m : Nat) (hm : m ≠ 0) (hlt : lonT L d + m < lonT L 32) (h : pr L (lonT L d + m) d ≠ pr L (lonT L d + (m - 1)) d) : cntN L d (m + 1) = cntN L d m + 1 := by
  have hs := pr_step L (lonT L d + (m - 1)) d ((lon_le_iff L _ d (by omega)).1 (by omega))
  rw [show lonT L d + (m - 1) + 1 = lonT L d + m from by omega] at hs
  have hmn := pr_mono L (lonT L d + (m - 1)) (lonT L d + m) d (by omega)
  have hm0 := pr_mono L (lonT L d) (lonT L d + (m - 1)) d (by omega)
  unfold cntN
  rw [if_neg (by omega), if_neg hm, show lonT L d + (m + 1) - 1 = lonT L d + m from by omega, show lonT L d + m - 1 = lonT L d + (m - 1) from by omega]
  omega

theorem idN_cnt (L : Nat → Nat) (d m : Nat) : idN L (lonT L d + m) d + 1 = NB L d + cntN L d (m + 1) := by
  unfold idN cntN
  rw [if_neg (by omega), show lonT L d + (m + 1) - 1 = lonT L d + m from by omega]
  omega

theorem cntN_le (L : Nat → Nat) (d m : Nat) (hle : lonT L d + m ≤ lonT L 32) : cntN L d m ≤ m := by
  induction m with
  | zero => simp [cntN]
  | succ m ih =>
    have ih := ih (by omega)
    by_cases hm : m = 0
    · subst hm; rw [cntN_first]; omega
    · by_cases h : pr L (lonT L d + m) d = pr L (lonT L d + (m - 1)) d
      · rw [cntN_same L d m hm h]; omega
      · rw [cntN_next L d m hm (by omega) h]; omega

theorem NN_le (L : Nat → Nat) (d : Nat) : NN L d ≤ 256 := by
  by_cases h : lonT L d ≤ lonT L 32
  · have := cntN_le L d (lonT L 32 - lonT L d) (by omega)
    have := lonT_le L 32
    rw [← cntN_all L d h]
    omega
  · unfold NN; rw [if_neg (by omega)]; omega

theorem NB_le (L : Nat → Nat) (d : Nat) : NB L d ≤ 256 * d := by
  induction d with
  | zero => simp [NB]
  | succ d ih => have := NN_le L d; simp only [NB]; omega

theorem NB_stop (L : Nat → Nat) (d e : Nat) (h : lonT L 32 ≤ lonT L d) (hde : d ≤ e) : NB L e = NB L d := by
  induction e with
  | zero => have : d = 0 := by omega
            subst this; rfl
  | succ e ih =>
    by_cases x : d = e + 1
    · subst x; rfl
    · have := lonT_mono L d e (by omega)
      simp only [NB, NN]
      rw [if_neg (by omega), ih (by omega)]
      rfl

/-! ### where a code's bits lead -/
def bitN (L : Nat → Nat) (q d : Nat) : Nat := pr L q (d + 1) % 2
def tgt (L : Nat → Nat) (q d : Nat) : Int := if d + 1 < ol L q then (idN L q (d + 1) : Int) else -1 - (oc L q : Int)

/-- a longer code's prefix is no code -/
theorem pr_ne (L : Nat → Nat) (q r : Nat) (hq : q < lonT L 32) (hr : r < lonT L 32) (hne : q ≠ r) (h : ol L q ≤ ol L r) : pr L r (ol L q) ≠ pr L q (ol L q) := by
  have hp := two_pos (32 - ol L q)
  have eq := pr_exact L q hq
  rcases Nat.lt_or_ge q r with hlt | hge
  · have h1 := SK_lt L q r hlt
    have : pr L q (ol L q) + 1 ≤ pr L r (ol L q) := by
      unfold pr at eq ⊢
      rw [Nat.le_div_iff_mul_le hp, Nat.add_mul, Nat.one_mul, eq]
      exact h1
    omega
  · have hlt : r < q := by omega
    have hol := ol_mono L r q (by omega) hq
    have hee : ol L q = ol L r := by omega
    have h1 := SK_lt L r q hlt
    have eqr := pr_exact L r hr
    rw [← hee] at eqr h1
    have : pr L r (ol L q) + 1 ≤ pr L q (ol L q) := by
      unfold pr at eqr ⊢
      rw [Nat.le_div_iff_mul_le hp, Nat.add_mul, Nat.one_mul, eqr]
      exact h1
    omega

theorem pr_next_eq (L : Nat → Nat) (q r d : Nat) (hd : d < 32) (h : pr L q d = pr L r d) (hb : bitN L q d = bitN L r d) : pr L q (d + 1) = pr L r (d + 1) := by
  unfold bitN at hb
  rw [pr_bit L q d hd, pr_bit L r d hd, h, hb]

theorem tgt_same (L : Nat → Nat) (q r d : Nat) (hq : q < lonT L 32) (hr : r < lonT L 32) (h1 : d < ol L q) (h2 : d < ol L r) (h : pr L q d = pr L r d) (hb : bitN L q d = bitN L r d) : tgt L q d = tgt L r d := by
  have h32 := (oc_facts L q hq).2.2.1
  have hn := pr_next_eq L q r d (by omega) h hb
  unfold tgt
  by_cases a : d + 1 < ol L q
  · by_cases b : d + 1 < ol L r
    · rw [if_pos a, if_pos b]; unfold idN; rw [hn]
    · exfalso
      have e : ol L r = d + 1 := by omega
      have := pr_ne L r q hr hq (by rintro rfl; omega) (by omega)
      rw [e] at this
      exact this hn
  · have e : ol L q = d + 1 := by omega
    by_cases b : d + 1 < ol L r
    · exfalso
      have := pr_ne L q r hq hr (by rintro rfl; omega) (by omega)
      rw [e] at this
      exact this hn.symm
    · have e2 : ol L r = d + 1 := by omega
      by_cases hqr : q = r
      · subst hqr; rfl
      · exfalso
        have := pr_ne L q r hq hr hqr (by omega)
        rw [e] at this
        exact this hn.symm

/-! ### what lies below a node -/
/-- the occurrences below the prefix p of d bits -/
def lenP (L C : Nat → Nat) (d p : Nat) : Nat := sumF (fun q => if d < ol L q ∧ pr L q d = p then C (oc L q) else 0) (lonT L 32)
/-- the occurrences below the prefix x of d + 1 bits, leaf or node -/
def subP (L C : Nat → Nat) (d x : Nat) : Nat := sumF (fun q => if d < ol L q ∧ pr L q (d + 1) = x then C (oc L q) else 0) (lonT L 32)

theorem lenP_split (L C : Nat → Nat) (d p : Nat) (hd : d < 32) : lenP L C d p = subP L C d (2 * p) + subP L C d (2 * p + 1) := by
  unfold lenP subP
  rw [← sumF_add]
  refine sumF_congr _ (fun q hq => ?_)
  have hb := pr_bit L q d hd
  by_cases h : d < ol L q
  · simp only [h, true_and]
    by_cases h0 : pr L q d = p
    · rw [if_pos h0]
      by_cases h1 : pr L q (d + 1) = 2 * p
      · rw [if_pos h1, if_neg (by omega)]; omega
      · rw [if_neg h1, if_pos (by omega)]; omega
    · rw [if_neg h0, if_neg (by omega), if_neg (by omega)]
  · simp [h]

theorem subP_node (L C : Nat → Nat) (d q : Nat) (hq : q < lonT L 32) (h : d + 1 < ol L q) : subP L C d (pr L q (d + 1)) = lenP L C (d + 1) (pr L q (d + 1)) := by
  unfold lenP subP
  refine sumF_congr _ (fun r hr => ?_)
  by_cases h1 : d + 1 < ol L r
  · simp only [h1, show d < ol L r from by omega, true_and]
  · rw [if_neg (show ¬ (d + 1 < ol L r ∧ pr L r (d + 1) = pr L q (d + 1)) from fun x => h1 x.1)]
    rw [if_neg]
    rintro ⟨a, b⟩
    have e : ol L r = d + 1 := by omega
    have := pr_ne L r q hr hq (by rintro rfl; omega) (by omega)
    rw [e] at this
    exact this b.symm

theorem sumF_single (f : Nat → Nat) (m q : Nat) (hq : q < m) (h : ∀ i, i < m → i ≠ q → f i = 0) : sumF f m = f q := by
  induction m with
  | zero => omega
  | succ m ih =>
    simp only [sumF]
    by_cases e : q = m
    · subst e
      rw [sumF_congr (g := fun _ => 0) q (fun i hi => h i (by omega) (by omega)), sumF_zero]; omega
    · rw [ih (by omega) (fun i hi hne => h i (by omega) hne), h m (by omega) (fun x => e x.symm)]
      rfl

theorem subP_leaf (L C : Nat → Nat) (d q : Nat) (hq : q < lonT L 32) (h : ol L q = d + 1) : subP L C d (pr L q (d + 1)) = C (oc L q) := by
  unfold subP
  rw [sumF_single _ _ q hq]
  · rw [if_pos ⟨by omega, rfl⟩]
  · intro r hr hne
    rw [if_neg]
    rintro ⟨a, b⟩
    have := pr_ne L q r hq hr (fun x => hne x.symm) (by omega)
    rw [h] at this
    exact this b

/-! ### the sums that the loops gather -/
/-- behind the positions below i, and depths below d of position i: what node k has gathered, by W q e -/
def gath (L : Nat → Nat) (W : Nat → Nat → Nat) (k i d : Nat) : Nat :=
  sumF (fun q => sumF (fun e => if idN L q e = k then W q e else 0) (ol L q)) i + sumF (fun e => if idN L i e = k then W i e else 0) d

theorem gath_step (L : Nat → Nat) (W : Nat → Nat → Nat) (k i d : Nat) : gath L W k i (d + 1) = gath L W k i d + if idN L i d = k then W i d else 0 := by
  unfold gath; simp only [sumF]; omega

theorem gath_row (L : Nat → Nat) (W : Nat → Nat → Nat) (k i : Nat) : gath L W k i (ol L i) = gath L W k (i + 1) 0 := by
  unfold gath; simp only [sumF]; omega

theorem gath_end (L : Nat → Nat) (W : Nat → Nat → Nat) (r d : Nat) (hr : r < lonT L 32) (hd : d < ol L r) :
    gath L W (idN L r d) (lonT L 32) 0 = sumF (fun q => if d < ol L q ∧ pr L q d = pr L r d then W q d else 0) (lonT L 32) := by
  unfold gath
  simp only [sumF, Nat.add_zero]
  refine sumF_congr _ (fun q hq => ?_)
  by_cases h : d < ol L q ∧ pr L q d = pr L r d
  · rw [if_pos h, sumF_single _ _ d h.1]
    · rw [if_pos (by unfold idN; rw [h.2])]
    · intro e he hne
      rw [if_neg]
      intro x
      exact hne (idN_inj L q e r d hq he hr hd x).1
  · rw [if_neg h]
    rw [sumF_congr (g := fun _ => 0) _ (fun e he => ?_), sumF_zero]
    rw [if_neg]
    intro x
    obtain ⟨a, b⟩ := idN_inj L q e r d hq he hr hd x
    subst a
    exact h ⟨he, b⟩

theorem gath_len (L C : Nat → Nat) (r d : Nat) (hr : r < lonT L 32) (hd : d < ol L r) : gath L (fun q _ => C (oc L q)) (idN L r d) (lonT L 32) 0 = lenP L C d (pr L r d) :=
  gath_end L _ r d hr hd

theorem gath_ones (L C : Nat → Nat) (r d : Nat) (hr : r < lonT L 32) (hd : d < ol L r) : gath L (fun q e => bitN L q e * C (oc L q)) (idN L r d) (lonT L 32) 0 = subP L C d (2 * pr L r d + 1) := by
  rw [gath_end L _ r d hr hd]
  unfold subP
  refine sumF_congr _ (fun q hq => ?_)
  have h32 := (oc_facts L r hr).2.2.1
  have hb := pr_bit L q d (by omega)
  unfold bitN
  by_cases h : d < ol L q
  · simp only [h, true_and]
    by_cases h0 : pr L q d = pr L r d
    · rw [if_pos h0]
      by_cases h1 : pr L q (d + 1) % 2 = 0
      · rw [h1, if_neg (by omega), Nat.zero_mul]
      · rw [show pr L q (d + 1) % 2 = 1 from by omega, if_pos (by omega), Nat.one_mul]
    · rw [if_neg h0, if_neg (by omega)]
  · simp [h]

/-! ### a complete code -/
theorem base_next (L : Nat → Nat) (d : Nat) (hd : d < 32) : pr L (lonT L (d + 1)) (d + 1) = 2 * pr L (lonT L d) d + cntTo L (d + 1) 256 := by
  have key : ∀ m, lonT L d + m ≤ lonT L (d + 1) → SK L (lonT L d + m) = SK L (lonT L d) + m * 2 ^ (31 - d) := by
    intro m
    induction m with
    | zero => intro _; simp
    | succ m ih =>
      intro hm
      have h32 := lonT_mono L (d + 1) 32 (by omega)
      have h1 : d < ol L (lonT L d + m) := (lon_le_iff L _ d (by omega)).1 (by omega)
      have h2 := lon_le_iff L (lonT L d + m) (d + 1) (by omega)
      have e : ol L (lonT L d + m) = d + 1 := by omega
      rw [← Nat.add_assoc, SK_succ, ih (by omega), e, show 32 - (d + 1) = 31 - d from by omega, Nat.add_mul, Nat.one_mul]
      omega
  have hk := key (cntTo L (d + 1) 256) (by simp only [lonT]; omega)
  have hl : lonT L (d + 1) = lonT L d + cntTo L (d + 1) 256 := rfl
  have e0 := pr_exact_lon L d (by omega)
  generalize pr L (lonT L d) d = B at *
  unfold pr
  rw [hl, hk, show 32 - (d + 1) = 31 - d from by omega]
  rw [← e0]
  rw [pow_split (a := 32 - d) (b := 1) (c := 31 - d) (by omega), ← Nat.mul_assoc, ← Nat.add_mul, Nat.mul_div_cancel _ (two_pos _)]
  omega

theorem NN_full (L : Nat → Nat) (d : Nat) (hd : d ≤ 32) (hK : SK L (lonT L 32) = 2 ^ 32) : NN L d + pr L (lonT L d) d = 2 ^ d := by
  have hmon := lonT_mono L d 32 hd
  unfold NN
  by_cases hl : lonT L d < lonT L 32
  · rw [if_pos hl]
    have hlast : lonT L 32 - 1 < lonT L 32 := by omega
    have h1 : d < ol L (lonT L 32 - 1) := (lon_le_iff L _ d hlast).1 (by omega)
    have hol32 := (oc_facts L _ hlast).2.2.1
    have hs := SK_succ L (lonT L 32 - 1)
    rw [show lonT L 32 - 1 + 1 = lonT L 32 from by omega, hK] at hs
    have hlt := pr_lt L (lonT L 32 - 1) d (by omega) hlast hd
    have hge : 2 ^ d ≤ pr L (lonT L 32 - 1) d + 1 := by
      have e : (pr L (lonT L 32 - 1) d + 1) * 2 ^ (32 - d) ≥ 2 ^ d * 2 ^ (32 - d) := by
        rw [← Nat.pow_add, show d + (32 - d) = 32 from by omega, hs]
        have h2 := pow_le (a := 32 - ol L (lonT L 32 - 1)) (b := 31 - d) (by omega)
        have h3 := Nat.div_add_mod (SK L (lonT L 32 - 1)) (2 ^ (32 - d))
        have h4 : 2 ^ (32 - d) = 2 * 2 ^ (31 - d) := by rw [pow_split (a := 32 - d) (b := 1) (c := 31 - d) (by omega)]
        have hm : SK L (lonT L 32 - 1) % 2 ^ (32 - d) < 2 ^ (32 - d) := Nat.mod_lt _ (two_pos _)
        unfold pr
        rw [Nat.add_mul, Nat.one_mul, Nat.mul_comm]
        have hp := two_pos (32 - ol L (lonT L 32 - 1))
        have hmod : SK L (lonT L 32 - 1) % 2 ^ (32 - d) + 2 ^ (32 - ol L (lonT L 32 - 1)) ≤ 2 ^ (32 - d) := by
          have da := dvd_SK_at L _ hlast
          have db : 2 ^ (32 - ol L (lonT L 32 - 1)) ∣ 2 ^ (32 - d) := Nat.pow_dvd_pow 2 (by omega)
          have dc := (Nat.dvd_mod_iff db).2 da
          have dd := Nat.dvd_sub db dc
          have : 2 ^ (32 - ol L (lonT L 32 - 1)) ≤ 2 ^ (32 - d) - SK L (lonT L 32 - 1) % 2 ^ (32 - d) := Nat.le_of_dvd (by omega) dd
          omega
        omega
      exact Nat.le_of_mul_le_mul_right e (two_pos _)
    have := pr_mono L (lonT L d) (lonT L 32 - 1) d (by omega)
    omega
  · rw [if_neg hl, show lonT L d = lonT L 32 from by omega]
    unfold pr
    rw [hK, show (2 : Nat) ^ 32 = 2 ^ d * 2 ^ (32 - d) from by rw [← Nat.pow_add]; congr 1; omega, Nat.mul_div_cancel _ (two_pos _)]
    omega

theorem NN_count (L : Nat → Nat) (d : Nat) (hd : d ≤ 32) (hK : SK L (lonT L 32) = 2 ^ 32) : NN L d + lonT L d = NB L d + 1 := by
  induction d with
  | zero =>
    have h := NN_full L 0 (by omega) hK
    rw [show lonT L 0 = 0 from rfl, code_zero] at h
    simp [NB, lonT] at h ⊢
    exact h
  | succ d ih =>
    have ih := ih (by omega)
    have h0 := NN_full L d (by omega) hK
    have h1 := NN_full L (d + 1) hd hK
    rw [base_next L d (by omega)] at h1
    simp only [NB, lonT]
    rw [Nat.pow_succ] at h1
    omega

theorem nodes_total (L : Nat → Nat) (hK : SK L (lonT L 32) = 2 ^ 32) : NB L 32 + 1 = lonT L 32 := by
  have h := NN_count L 32 (by omega) hK
  have : NN L 32 = 0 := by unfold NN; rw [if_neg (by omega)]
  omega

/-- in a complete code both ways from a node lead on -/
theorem SK_hit (L : Nat → Nat) (d x m : Nat) (hm : m ≤ lonT L 32) (hl : lonT L d ≤ m) (h1 : SK L (lonT L d) ≤ x) (h2 : x < SK L m) (hx : 2 ^ (31 - d) ∣ x) : ∃ q, lonT L d ≤ q ∧ q < m ∧ SK L q = x := by
  induction m with
  | zero => rw [SK_zero] at h2; omega
  | succ m ih =>
    by_cases e : lonT L d = m + 1
    · rw [e] at h1; omega
    · by_cases h3 : x < SK L m
      · obtain ⟨q, a, b, c⟩ := ih (by omega) (by omega) h3
        exact ⟨q, a, by omega, c⟩
      · refine ⟨m, by omega, by omega, ?_⟩
        have hml : m < lonT L 32 := by omega
        have hol : d < ol L m := (lon_le_iff L m d hml).1 (by omega)
        rw [SK_succ] at h2
        have d1 := dvd_SK_at L m hml
        have d2 : 2 ^ (32 - ol L m) ∣ x := Nat.dvd_trans (Nat.pow_dvd_pow 2 (by omega)) hx
        have d3 : 2 ^ (32 - ol L m) ∣ x - SK L m := Nat.dvd_sub d2 d1
        have : x - SK L m = 0 := Nat.eq_zero_of_dvd_of_lt d3 (by omega)
        omega

theorem child_hit (L : Nat → Nat) (hK : SK L (lonT L 32) = 2 ^ 32) (r d b : Nat) (hr : r < lonT L 32) (hd : d < ol L r) (hb : b < 2) :
    ∃ q, q < lonT L 32 ∧ d < ol L q ∧ pr L q d = pr L r d ∧ bitN L q d = b := by
  have h32 := (oc_facts L r hr).2.2.1
  have hlt := pr_lt L r d (by omega) hr (by omega)
  have hbt := pr_between L r d hr hd
  have e0 := pr_exact_lon L d (by omega)
  have h4 : 2 ^ (32 - d) = 2 * 2 ^ (31 - d) := by rw [pow_split (a := 32 - d) (b := 1) (c := 31 - d) (by omega)]
  have hp := two_pos (31 - d)
  have hx1 : SK L (lonT L d) ≤ (2 * pr L r d + b) * 2 ^ (31 - d) := by
    rw [← e0, h4, ← Nat.mul_assoc]
    exact Nat.mul_le_mul_right _ (by omega)
  have hx2 : (2 * pr L r d + b) * 2 ^ (31 - d) < SK L (lonT L 32) := by
    rw [hK, show (2 : Nat) ^ 32 = 2 ^ (d + 1) * 2 ^ (31 - d) from by rw [← Nat.pow_add]; congr 1; omega]
    refine Nat.mul_lt_mul_of_pos_right ?_ hp
    rw [Nat.pow_succ]; omega
  obtain ⟨q, a, c, e⟩ := SK_hit L d _ _ (Nat.le_refl _) (Nat.le_of_lt (lon_lt L r d hr hd)) hx1 hx2 (Nat.dvd_mul_left _ _)
  have hpq : pr L q (d + 1) = 2 * pr L r d + b := by
    unfold pr at e ⊢
    rw [e, show 32 - (d + 1) = 31 - d from by omega, Nat.mul_div_cancel _ hp]
  have hbit := pr_bit L q d (by omega)
  refine ⟨q, c, (lon_le_iff L q d c).1 a, by omega, by unfold bitN; omega⟩

end Go.Proofs.Qxb6602643a
