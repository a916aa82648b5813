/- What the tree model law wants, of numbers and lists alone. -/
import Derived.Test.Qxb6602643aDcPlain
namespace Go.Proofs.Qxb6602643a

/-! ### the canonical codes in closed form -/
def KS (L : Nat → Nat) (c m : Nat) : Nat := sumF (fun e => if 1 ≤ L e ∧ (L e < L c ∨ (L e = L c ∧ e < c)) then 2 ^ (32 - L e) else 0) m

theorem posT_lt_iff (L : Nat → Nat) (c e : Nat) (hc : c < 256) (h1 : 1 ≤ L c) (he : e < 256) (h2 : 1 ≤ L e) : posT L e < posT L c ↔ (L e < L c ∨ (L e = L c ∧ e < c)) := by
  have b1 := posT_between L c hc h1
  have b2 := posT_between L e he h2
  constructor
  · intro h
    by_cases x : L e < L c
    · exact .inl x
    · by_cases y : L e = L c
      · refine .inr ⟨y, ?_⟩
        unfold posT at h
        rw [y] at h
        by_cases z : e < c
        · exact z
        · have := cntTo_mono L (L c) c e (by omega)
          omega
      · have := lonT_mono L (L c) (L e - 1) (by omega)
        omega
  · rintro (h | ⟨h, h3⟩)
    · have := lonT_mono L (L e) (L c - 1) (by omega)
      omega
    · have := cntTo_lt L (L c) e c h3 h
      unfold posT
      rw [h]
      omega

theorem sumF_below (f : Nat → Nat) (q m : Nat) (h : q ≤ m) : sumF (fun i => if i < q then f i else 0) m = sumF f q := by
  induction m with
  | zero => have : q = 0 := by omega
            subst this; rfl
  | succ m ih =>
    by_cases e : q = m + 1
    · subst e
      exact sumF_congr _ (fun i hi => if_pos hi)
    · simp only [sumF]
      rw [ih (by omega), if_neg (by omega), Nat.add_zero]

theorem KS_eq (L : Nat → Nat) (hL : ∀ c, c < 256 → L c ≤ 32) (c : Nat) (hc : c < 256) (h1 : 1 ≤ L c) : KS L c 256 = SK L (posT L c) := by
  have hp := posT_lt L 32 c hc h1 (hL c hc)
  have h := sumF_oc L hL (fun e => if posT L e < posT L c then 2 ^ (32 - L e) else 0)
  have e1 : sumF (fun i => if posT L (oc L i) < posT L c then 2 ^ (32 - L (oc L i)) else 0) (lonT L 32) = SK L (posT L c) := by
    rw [sumF_congr (g := fun i => if i < posT L c then 2 ^ (32 - ol L i) else 0) _ (fun i hi => by rw [(oc_facts L i hi).2.2.2]; rfl)]
    exact sumF_below _ _ _ (by omega)
  rw [e1] at h
  rw [h]
  unfold KS
  refine sumF_congr _ (fun e he => ?_)
  by_cases h2 : 1 ≤ L e
  · rw [if_pos h2]
    have := posT_lt_iff L c e hc h1 he h2
    by_cases h3 : posT L e < posT L c
    · rw [if_pos h3, if_pos ⟨h2, this.1 h3⟩]
    · rw [if_neg h3, if_neg (fun x => h3 (this.2 x.2))]
  · rw [if_neg h2, if_neg (fun x => h2 x.1)]

theorem KS_le (L : Nat → Nat) (c m : Nat) : KS L c m ≤ m * 2147483648 := by
  induction m with
  | zero => exact Nat.zero_le _
  | succ m ih =>
    have e : KS L c (m + 1) = KS L c m + if 1 ≤ L m ∧ (L m < L c ∨ (L m = L c ∧ m < c)) then 2 ^ (32 - L m) else 0 := rfl
    rw [e, Nat.add_mul, Nat.one_mul]
    refine Nat.add_le_add ih ?_
    split
    · exact pow31 _ (by omega)
    · exact Nat.zero_le _

theorem code_closed (L : Nat → Nat) (hL : ∀ c, c < 256 → L c ≤ 32) (c : Nat) (hc : c < 256) (h1 : 1 ≤ L c) : KS L c 256 / 2 ^ (32 - L c) = codT L (lonT L 32) c := by
  have hp := posT_lt L 32 c hc h1 (hL c hc)
  rw [KS_eq L hL c hc h1]
  unfold codT
  rw [if_pos ⟨h1, hp⟩]
  rfl

/-! ### a sorted list without doubles -/
def ins : List Nat → Nat → List Nat
  | [], p => [p]
  | x :: xs, p => if x < p then x :: ins xs p else if x = p then x :: xs else p :: x :: xs

theorem ins_mem (xs : List Nat) (p y : Nat) : y ∈ ins xs p ↔ y = p ∨ y ∈ xs := by
  induction xs with
  | nil => simp [ins]
  | cons x xs ih =>
    simp only [ins]
    split
    · simp only [List.mem_cons, ih]
      constructor
      · rintro (h | h | h)
        · exact .inr (.inl h)
        · exact .inl h
        · exact .inr (.inr h)
      · rintro (h | h | h)
        · exact .inr (.inl h)
        · exact .inl h
        · exact .inr (.inr h)
    · split
      · rename_i h1 h2
        subst h2
        simp only [List.mem_cons]
        constructor
        · intro h; exact .inr h
        · rintro (h | h)
          · exact .inl h
          · exact h
      · simp only [List.mem_cons]

def Asc : List Nat → Prop
  | [] => True
  | x :: xs => (∀ y ∈ xs, x < y) ∧ Asc xs

theorem ins_asc (xs : List Nat) (p : Nat) (h : Asc xs) : Asc (ins xs p) := by
  induction xs with
  | nil => simp [ins, Asc]
  | cons x xs ih =>
    obtain ⟨h1, h2⟩ := h
    simp only [ins]
    split
    · rename_i hlt
      refine ⟨fun y hy => ?_, ih h2⟩
      rcases (ins_mem xs p y).1 hy with rfl | hy
      · exact hlt
      · exact h1 y hy
    · split
      · exact ⟨h1, h2⟩
      · rename_i h3 h4
        refine ⟨fun y hy => ?_, h1, h2⟩
        simp only [List.mem_cons] at hy
        rcases hy with rfl | hy
        · omega
        · have := h1 y hy; omega

theorem asc_ext (a b : List Nat) (ha : Asc a) (hb : Asc b) (h : ∀ y, y ∈ a ↔ y ∈ b) : a = b := by
  induction a generalizing b with
  | nil =>
    cases b with
    | nil => rfl
    | cons y ys => exact absurd ((h y).2 (by simp)) (by simp)
  | cons x xs ih =>
    cases b with
    | nil => exact absurd ((h x).1 (by simp)) (by simp)
    | cons y ys =>
      obtain ⟨a1, a2⟩ := ha
      obtain ⟨b1, b2⟩ := hb
      have hxy : x = y := by
        have hx := (h x).1 (by simp)
        have hy := (h y).2 (by simp)
        simp only [List.mem_cons] at hx hy
        rcases hx with hx | hx
        · exact hx
        · rcases hy with hy | hy
          · exact hy.symm
          · have := b1 x hx; have := a1 y hy; omega
      subst hxy
      have : xs = ys := by
        refine ih ys a2 b2 (fun z => ?_)
        constructor
        · intro hz
          have := (h z).1 (by simp [hz])
          simp only [List.mem_cons] at this
          rcases this with rfl | this
          · have := a1 z hz; omega
          · exact this
        · intro hz
          have := (h z).2 (by simp [hz])
          simp only [List.mem_cons] at this
          rcases this with rfl | this
          · have := b1 z hz; omega
          · exact this
      rw [this]

theorem asc_range (b n : Nat) : Asc ((List.range' b n)) := by
  induction n generalizing b with
  | zero => simp [Asc, List.range']
  | succ n ih =>
    rw [List.range'_succ]
    refine ⟨fun y hy => ?_, ih (b + 1)⟩
    have := List.mem_range'_1.1 hy
    omega

/-- the prefixes of d bits of the first c values -/
def psT (L : Nat → Nat) (d : Nat) : Nat → List Nat
  | 0 => []
  | c + 1 => if d < L c then ins (psT L d c) (pr L (posT L c) d) else psT L d c

theorem psT_asc (L : Nat → Nat) (d c : Nat) : Asc (psT L d c) := by
  induction c with
  | zero => trivial
  | succ c ih => simp only [psT]; split; exact ins_asc _ _ ih; exact ih
theorem psT_mem (L : Nat → Nat) (d c y : Nat) : y ∈ psT L d c ↔ ∃ e, e < c ∧ d < L e ∧ pr L (posT L e) d = y := by
  induction c with
  | zero => simp [psT]
  | succ c ih =>
    simp only [psT]
    by_cases h : d < L c
    · rw [if_pos h, ins_mem, ih]
      constructor
      · rintro (rfl | ⟨e, a, b, f⟩)
        · exact ⟨c, by omega, h, rfl⟩
        · exact ⟨e, by omega, b, f⟩
      · rintro ⟨e, a, b, f⟩
        by_cases x : e = c
        · subst x; exact .inl f.symm
        · exact .inr ⟨e, by omega, b, f⟩
    · rw [if_neg h, ih]
      constructor
      · rintro ⟨e, a, b, f⟩; exact ⟨e, by omega, b, f⟩
      · rintro ⟨e, a, b, f⟩
        refine ⟨e, ?_, b, f⟩
        by_cases x : e = c
        · subst x; exact absurd b h
        · omega

theorem psT_all (L : Nat → Nat) (hL : ∀ c, c < 256 → L c ≤ 32) (d : Nat) : psT L d 256 = List.range' (pr L (lonT L d) d) (NN L d) := by
  refine asc_ext _ _ (psT_asc L d 256) (asc_range _ _) (fun y => ?_)
  rw [psT_mem, List.mem_range'_1]
  constructor
  · rintro ⟨e, he, hd, rfl⟩
    have hp := posT_lt L 32 e he (by omega) (hL e he)
    have ho : ol L (posT L e) = L e := by unfold ol; rw [oc_posT L e he (by omega) (hL e he)]
    have hb := pr_between L (posT L e) d hp (by omega)
    have hl := lon_lt L (posT L e) d hp (by omega)
    unfold NN
    rw [if_pos hl]
    omega
  · rintro ⟨h1, h2⟩
    unfold NN at h2
    by_cases hl : lonT L d < lonT L 32
    · rw [if_pos hl] at h2
      have hm := pr_mono L (lonT L d) (lonT L 32 - 1) d (by omega)
      obtain ⟨q, a, b, e⟩ := pr_hit L d (lonT L 32 - 1) y (by omega) (by omega) h1 (by omega)
      have hf := oc_facts L q (by omega)
      have hd := (lon_le_iff L q d (by omega)).1 a
      exact ⟨oc L q, hf.1, hd, by rw [hf.2.2.2]; exact e⟩
    · rw [if_neg hl] at h2; omega

/-- the prefixes of the nodes ahead of depth d -/
def pl (L : Nat → Nat) : Nat → List Nat
  | 0 => []
  | d + 1 => pl L d ++ List.range' (pr L (lonT L d) d) (NN L d)
theorem pl_length (L : Nat → Nat) (d : Nat) : (pl L d).length = NB L d := by
  induction d with
  | zero => rfl
  | succ d ih => simp only [pl, NB, List.length_append, ih, List.length_range']
theorem pl_get (L : Nat → Nat) (m d k : Nat) (hd : d < m) (h1 : NB L d ≤ k) (h2 : k < NB L (d + 1)) : (pl L m)[k]? = some (pr L (lonT L d) d + (k - NB L d)) := by
  induction m with
  | zero => omega
  | succ m ih =>
    simp only [pl]
    by_cases e : d = m
    · subst e
      rw [List.getElem?_append_right (by rw [pl_length]; exact h1), pl_length]
      simp only [NB] at h2
      rw [List.getElem?_range' (by omega)]
      simp
    · have := NB_mono L (d + 1) m (by omega)
      rw [List.getElem?_append_left (by rw [pl_length]; omega)]
      exact ih (by omega)
def prfN (L : Nat → Nat) (k : Nat) : Nat := (pl L 32).getD k 0
theorem prfN_id (L : Nat → Nat) (q d : Nat) (hq : q < lonT L 32) (hd : d < ol L q) : prfN L (idN L q d) = pr L q d := by
  have h := idN_between L q d hq hd
  have h32 := (oc_facts L q hq).2.2.1
  have hb := pr_between L q d hq hd
  unfold prfN
  rw [List.getD_eq_getElem?_getD, pl_get L 32 d _ (by omega) h.1 h.2]
  show _ + (idN L q d - NB L d) = _
  unfold idN
  omega

/-- which node a depth and a prefix name -/
theorem find_uniq (L : Nat → Nat) (k d p : Nat) (hk : k < NB L 32) (h1 : depN L k = d) (h2 : prfN L k = p) : ∃ q, q < lonT L 32 ∧ d < ol L q ∧ pr L q d = p ∧ idN L q d = k := by
  obtain ⟨q, e, hq, he, _, hid⟩ := node_hit L k 32 hk
  have a := depN_id L q e hq he
  have b := prfN_id L q e hq he
  rw [hid] at a b
  rw [h1] at a
  subst a
  exact ⟨q, hq, he, by rw [← b, h2], hid⟩

/-! ### where the bits of a node lead, by the model -/
/-- what the scan for a leaf has found behind c values -/
def lfT (L : Nat → Nat) (d x : Nat) : Nat → Int
  | 0 => 0
  | c + 1 => if L c = d + 1 ∧ codT L (lonT L 32) c = x then -1 - (c : Int) else lfT L d x c

theorem lfT_none (L : Nat → Nat) (d x c : Nat) (h : ∀ e, e < c → ¬ (L e = d + 1 ∧ codT L (lonT L 32) e = x)) : lfT L d x c = 0 := by
  induction c with
  | zero => rfl
  | succ c ih =>
    simp only [lfT]
    rw [if_neg (h c (by omega))]
    exact ih (fun e he => h e (by omega))

theorem lfT_some (L : Nat → Nat) (d x c e : Nat) (he : e < c) (h : L e = d + 1 ∧ codT L (lonT L 32) e = x) (hu : ∀ f, f < c → (L f = d + 1 ∧ codT L (lonT L 32) f = x) → f = e) : lfT L d x c = -1 - (e : Int) := by
  induction c with
  | zero => omega
  | succ c ih =>
    simp only [lfT]
    by_cases y : L c = d + 1 ∧ codT L (lonT L 32) c = x
    · rw [if_pos y, hu c (by omega) y]
    · rw [if_neg y]
      have hne : e ≠ c := by rintro rfl; exact y h
      exact ih (by omega) (fun f hf hy => hu f (by omega) hy)

theorem child_find (L : Nat → Nat) (ch : Nat → Nat → Int) (hCH : CH L (lonT L 32) 0 ch) (q d b r : Nat) (hb : b < 2) (hr : r < lonT L 32) (hdr : d + 1 < ol L r) (hx : pr L r (d + 1) = 2 * pr L q d + b) :
    ch (idN L q d) b = (idN L r (d + 1) : Int) := by
  have h32 := (oc_facts L r hr).2.2.1
  have hbit := pr_bit L r d (by omega)
  have e1 : pr L r d = pr L q d := by omega
  have e2 : bitN L r d = b := by unfold bitN; omega
  have e3 : idN L r d = idN L q d := by unfold idN; rw [e1]
  have := hCH.1 r d hr (by omega) (.inl hr)
  rw [e3, e2] at this
  rw [this]
  unfold tgt
  rw [if_pos hdr]

theorem child_scan (L : Nat → Nat) (hL : ∀ c, c < 256 → L c ≤ 32) (ch : Nat → Nat → Int) (hCH : CH L (lonT L 32) 0 ch) (q d b : Nat) (hq : q < lonT L 32) (hd : d < ol L q) (hb : b < 2)
    (hno : ∀ r, r < lonT L 32 → d + 1 < ol L r → pr L r (d + 1) ≠ 2 * pr L q d + b) : lfT L d (2 * pr L q d + b) 256 = ch (idN L q d) b := by
  have h32 := (oc_facts L q hq).2.2.1
  have hcod : ∀ e, e < 256 → L e = d + 1 → posT L e < lonT L 32 ∧ oc L (posT L e) = e ∧ ol L (posT L e) = d + 1 ∧ codT L (lonT L 32) e = pr L (posT L e) (d + 1) := by
    intro e he hl
    have hp := posT_lt L 32 e he (by omega) (hL e he)
    have ho := oc_posT L e he (by omega) (hL e he)
    refine ⟨hp, ho, by unfold ol; rw [ho, hl], ?_⟩
    unfold codT
    rw [if_pos ⟨by omega, hp⟩, hl]
  by_cases hex : ∃ e, e < 256 ∧ (L e = d + 1 ∧ codT L (lonT L 32) e = 2 * pr L q d + b)
  · obtain ⟨e, he, hl, hc⟩ := hex
    obtain ⟨p1, p2, p3, p4⟩ := hcod e he hl
    rw [lfT_some L d _ 256 e he ⟨hl, hc⟩]
    · rw [p4] at hc
      have hbit := pr_bit L (posT L e) d (by omega)
      have e1 : pr L (posT L e) d = pr L q d := by omega
      have e2 : bitN L (posT L e) d = b := by unfold bitN; omega
      have e3 : idN L (posT L e) d = idN L q d := by unfold idN; rw [e1]
      have := hCH.1 (posT L e) d p1 (by omega) (.inl p1)
      rw [e3, e2] at this
      rw [this]
      unfold tgt
      rw [if_neg (by omega), p2]
    · intro f hf ⟨hl', hc'⟩
      obtain ⟨q1, q2, q3, q4⟩ := hcod f hf hl'
      by_cases x : posT L f = posT L e
      · rw [← q2, x, p2]
      · exfalso
        have := pr_ne L (posT L f) (posT L e) q1 p1 x (by omega)
        rw [q3, ← q4, ← p4, hc, hc'] at this
        exact this rfl
  · rw [lfT_none L d _ 256 (fun e he h => hex ⟨e, he, h⟩)]
    refine (hCH.2 _ _ ?_).symm
    rintro r e hr he _ ⟨h1, h2⟩
    obtain ⟨x1, x2⟩ := idN_inj L r e q d hr he hq hd h1
    subst x1
    have hr32 := (oc_facts L r hr).2.2.1
    have hbit := pr_bit L r e (by omega)
    unfold bitN at h2
    have hx : pr L r (e + 1) = 2 * pr L q e + b := by omega
    by_cases hl : e + 1 < ol L r
    · exact hno r hr hl hx
    · have hf := oc_facts L r hr
      refine hex ⟨oc L r, hf.1, ?_, ?_⟩
      · show ol L r = e + 1
        omega
      · unfold codT
        rw [hf.2.2.2, if_pos ⟨hf.2.1, hr⟩]
        rw [show L (oc L r) = e + 1 from by show ol L r = e + 1; omega]
        exact hx

/-! ### what the law adds up for a node -/
def lnC (L C : Nat → Nat) (d p c : Nat) : Nat := sumF (fun e => if d < L e ∧ pr L (posT L e) d = p then C e else 0) c % 18446744073709551616
def onC (L C : Nat → Nat) (d p c : Nat) : Nat := sumF (fun e => if d < L e ∧ pr L (posT L e) d = p ∧ pr L (posT L e) (d + 1) % 2 = 1 then C e else 0) c % 18446744073709551616
theorem lnC_yes (L C : Nat → Nat) (d p c : Nat) (h : d < L c ∧ pr L (posT L c) d = p) : lnC L C d p (c + 1) = (lnC L C d p c + C c) % 18446744073709551616 := by
  unfold lnC; simp only [sumF]; rw [if_pos h]; omega
theorem lnC_no (L C : Nat → Nat) (d p c : Nat) (h : ¬ (d < L c ∧ pr L (posT L c) d = p)) : lnC L C d p (c + 1) = lnC L C d p c := by
  unfold lnC; simp only [sumF]; rw [if_neg h]; omega
theorem onC_yes (L C : Nat → Nat) (d p c : Nat) (h : d < L c ∧ pr L (posT L c) d = p ∧ pr L (posT L c) (d + 1) % 2 = 1) : onC L C d p (c + 1) = (onC L C d p c + C c) % 18446744073709551616 := by
  unfold onC; simp only [sumF]; rw [if_pos h]; omega
theorem onC_no (L C : Nat → Nat) (d p c : Nat) (h : ¬ (d < L c ∧ pr L (posT L c) d = p ∧ pr L (posT L c) (d + 1) % 2 = 1)) : onC L C d p (c + 1) = onC L C d p c := by
  unfold onC; simp only [sumF]; rw [if_neg h]; omega

theorem lnC_all (L C : Nat → Nat) (hL : ∀ c, c < 256 → L c ≤ 32) (q d : Nat) (hq : q < lonT L 32) (hd : d < ol L q) : lnC L C d (pr L q d) 256 = lnG L C (lonT L 32) 0 (idN L q d) := by
  unfold lnC lnG
  rw [gath_len L C q d hq hd]
  refine congrArg (fun z => z % 18446744073709551616) ?_
  unfold lenP
  have h := sumF_oc L hL (fun e => if d < L e ∧ pr L (posT L e) d = pr L q d then C e else 0)
  rw [sumF_congr (g := fun c => if 1 ≤ L c then (if d < L c ∧ pr L (posT L c) d = pr L q d then C c else 0) else 0) 256 (fun e he => ?_), ← h]
  · refine sumF_congr _ (fun i hi => ?_)
    rw [(oc_facts L i hi).2.2.2]
    rfl
  · by_cases x : 1 ≤ L e
    · rw [if_pos x]
    · rw [if_neg x, if_neg (fun y => by omega)]

theorem onC_all (L C : Nat → Nat) (hL : ∀ c, c < 256 → L c ≤ 32) (q d : Nat) (hq : q < lonT L 32) (hd : d < ol L q) : onC L C d (pr L q d) 256 = onG L C (lonT L 32) 0 (idN L q d) := by
  have h32 := (oc_facts L q hq).2.2.1
  unfold onC onG
  rw [gath_ones L C q d hq hd]
  refine congrArg (fun z => z % 18446744073709551616) ?_
  unfold subP
  have h := sumF_oc L hL (fun e => if d < L e ∧ pr L (posT L e) d = pr L q d ∧ pr L (posT L e) (d + 1) % 2 = 1 then C e else 0)
  rw [sumF_congr (g := fun c => if 1 ≤ L c then (if d < L c ∧ pr L (posT L c) d = pr L q d ∧ pr L (posT L c) (d + 1) % 2 = 1 then C c else 0) else 0) 256 (fun e he => ?_), ← h]
  · refine sumF_congr _ (fun i hi => ?_)
    rw [(oc_facts L i hi).2.2.2]
    have hb := pr_bit L i d (by omega)
    show (if d < ol L i ∧ _ then C (oc L i) else 0) = _
    by_cases a : d < ol L i
    · simp only [a, true_and]
      by_cases b : pr L i (d + 1) = 2 * pr L q d + 1
      · rw [if_pos b, if_pos (by omega)]
      · rw [if_neg b, if_neg (by omega)]
    · simp [a]
  · by_cases x : 1 ≤ L e
    · rw [if_pos x]
    · rw [if_neg x, if_neg (fun y => by omega)]

theorem stG_succ (L C : Nat → Nat) (k : Nat) : stG L C (k + 1) = (stG L C k + lnG L C (lonT L 32) 0 k) % 18446744073709551616 := by
  unfold stG; simp only [sumF]; omega
end Go.Proofs.Qxb6602643a
