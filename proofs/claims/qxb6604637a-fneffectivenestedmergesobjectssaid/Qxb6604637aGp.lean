/- Groups of a sorted list, with no Go in sight. -/
import Derived.Test.Qxb6604637aSp
namespace Go.Proofs.Qxb6604637a

/-- i and j have the same key -/
def eqk (lt : Nat → Nat → Bool) (i j : Nat) : Prop := lt i j = false ∧ lt j i = false
theorem SW.eqk_refl {lt : Nat → Nat → Bool} (S : SW lt) (i : Nat) : eqk lt i i := ⟨S.irr i, S.irr i⟩
theorem eqk.symm {lt : Nat → Nat → Bool} {i j : Nat} (h : eqk lt i j) : eqk lt j i := ⟨h.2, h.1⟩
theorem SW.eqk_tr {lt : Nat → Nat → Bool} (S : SW lt) {i j k : Nat} (h : eqk lt i j) (h' : eqk lt j k) : eqk lt i k := ⟨S.ng _ _ _ h.1 h'.1, S.ng _ _ _ h'.2 h.2⟩
theorem SW.lt_left {lt : Nat → Nat → Bool} (S : SW lt) {i j k : Nat} (h : eqk lt i j) (h' : lt j k = true) : lt i k = true := by
  cases e : lt i k with
  | true => rfl
  | false => rw [S.ng _ _ _ h.2 e] at h'; cases h'
theorem SW.lt_right {lt : Nat → Nat → Bool} (S : SW lt) {i j k : Nat} (h : lt i j = true) (h' : eqk lt j k) : lt i k = true := by
  cases e : lt i k with
  | true => rfl
  | false => rw [S.ng _ _ _ e h'.2] at h; cases h
theorem SW.lt_prec {lt : Nat → Nat → Bool} (S : SW lt) {i j k : Nat} (h : lt i j = true) (h' : prec lt j k) : lt i k = true := by
  rcases h' with h' | ⟨h', _⟩
  · exact S.tr _ _ _ h h'
  · cases e : lt i k with
    | true => rfl
    | false => rw [S.ng _ _ _ e h'] at h; cases h

/-- the groups of S up to place s: each by its first and its last -/
structure GI (lt : Nat → Nat → Bool) (S : List Nat) (s : Nat) (PL : List (Nat × Nat)) : Prop where
  le : s ≤ S.length
  bnd : ∀ t u, t < s → s ≤ u → u < S.length → lt (S.getD t 0) (S.getD u 0) = true
  mem : ∀ t, t < s → ∃ p ∈ PL, eqk lt p.1 (S.getD t 0)
  src : ∀ p ∈ PL, (∃ t, t < s ∧ S.getD t 0 = p.1) ∧ (∃ t, t < s ∧ S.getD t 0 = p.2) ∧ eqk lt p.1 p.2 ∧ ∀ t, t < S.length → eqk lt p.1 (S.getD t 0) → S.getD t 0 ≤ p.2
  srt : PL.Pairwise (fun p q => lt p.1 q.1 = true)

theorem GI.start (lt : Nat → Nat → Bool) (S : List Nat) : GI lt S 0 [] := ⟨Nat.zero_le _, fun t u h => absurd h (by omega), fun t h => absurd h (by omega), fun p h => by simp at h, List.Pairwise.nil⟩

theorem srt_get {r : Nat → Nat → Prop} {S : List Nat} (h : S.Pairwise r) {t u : Nat} (htu : t < u) (hu : u < S.length) : r (S.getD t 0) (S.getD u 0) := by
  have := List.pairwise_iff_getElem.1 h t u (by omega) hu htu
  rwa [List.getD_eq_getElem?_getD, List.getD_eq_getElem?_getD, List.getElem?_eq_getElem (by omega), List.getElem?_eq_getElem hu]

theorem GI.step {lt : Nat → Nat → Bool} (W : SW lt) {S : List Nat} {s e : Nat} {PL : List (Nat × Nat)} (h : GI lt S s PL) (hS : S.Pairwise (prec lt)) (hse : s ≤ e) (he : e < S.length)
    (hrun : ∀ t, s ≤ t → t ≤ e → eqk lt (S.getD s 0) (S.getD t 0)) (hstop : e + 1 = S.length ∨ ¬ eqk lt (S.getD s 0) (S.getD (e + 1) 0)) : GI lt S (e + 1) (PL ++ [(S.getD s 0, S.getD e 0)]) := by
  have hafter : ∀ u, e + 1 ≤ u → u < S.length → lt (S.getD s 0) (S.getD u 0) = true := by
    intro u h1 h2
    rcases hstop with h3 | h3
    · omega
    · have h4 : lt (S.getD s 0) (S.getD (e + 1) 0) = true := by
        rcases srt_get hS (show s < e + 1 by omega) (by omega) with h5 | ⟨h5, _⟩
        · exact h5
        · cases h6 : lt (S.getD s 0) (S.getD (e + 1) 0) with
          | true => rfl
          | false => exact absurd ⟨h6, h5⟩ h3
      by_cases h7 : u = e + 1
      · subst h7; exact h4
      · exact W.lt_prec h4 (srt_get hS (show e + 1 < u by omega) h2)
  refine ⟨by omega, fun t u h1 h2 h3 => ?_, fun t h1 => ?_, fun p hp => ?_, ?_⟩
  · by_cases h4 : t < s
    · exact h.bnd t u h4 (by omega) h3
    · exact W.lt_left (hrun t (by omega) (by omega)).symm (hafter u h2 h3)
  · by_cases h4 : t < s
    · obtain ⟨p, hp, h5⟩ := h.mem t h4
      exact ⟨p, List.mem_append_left _ hp, h5⟩
    · exact ⟨_, List.mem_append_right _ (List.mem_singleton.2 rfl), hrun t (by omega) (by omega)⟩
  · rcases List.mem_append.1 hp with hp | hp
    · obtain ⟨⟨t1, a1, b1⟩, ⟨t2, a2, b2⟩, h3, h4⟩ := h.src p hp
      exact ⟨⟨t1, by omega, b1⟩, ⟨t2, by omega, b2⟩, h3, h4⟩
    · rw [List.mem_singleton.1 hp]
      refine ⟨⟨s, by omega, rfl⟩, ⟨e, by omega, rfl⟩, hrun e hse (Nat.le_refl _), fun t h1 h2 => ?_⟩
      by_cases h3 : t < s
      · have h4 := h.bnd t s h3 (Nat.le_refl _) (by omega)
        rw [h2.2] at h4
        cases h4
      · by_cases h4 : t ≤ e
        · by_cases h5 : t = e
          · subst h5; exact Nat.le_refl _
          · rcases srt_get hS (show t < e by omega) he with h6 | ⟨_, h6⟩
            · have h7 := W.eqk_tr (hrun t (by omega) h4).symm (hrun e hse (Nat.le_refl _))
              rw [h7.1] at h6
              cases h6
            · omega
        · have h5 := hafter t (by omega) h1
          rw [h2.1] at h5
          cases h5
  · rw [List.pairwise_append]
    refine ⟨h.srt, List.pairwise_singleton _ _, fun p hp q hq => ?_⟩
    rw [List.mem_singleton.1 hq]
    obtain ⟨⟨t1, a1, b1⟩, _⟩ := h.src p hp
    rw [← b1]
    exact h.bnd t1 s a1 (Nat.le_refl _) (by omega)

/-- at the end: every element of S is in one group, and nothing else -/
theorem GI.all {lt : Nat → Nat → Bool} {S : List Nat} {PL : List (Nat × Nat)} (h : GI lt S S.length PL) {x : Nat} (hx : x ∈ S) : ∃ p ∈ PL, eqk lt p.1 x := by
  obtain ⟨t, ht, rfl⟩ := List.mem_iff_getElem.1 hx
  have := h.mem t ht
  rwa [List.getD_eq_getElem?_getD, List.getElem?_eq_getElem ht] at this
theorem GI.of {lt : Nat → Nat → Bool} {S : List Nat} {s : Nat} {PL : List (Nat × Nat)} (h : GI lt S s PL) {p : Nat × Nat} (hp : p ∈ PL) : p.1 ∈ S ∧ p.2 ∈ S ∧ eqk lt p.1 p.2 ∧ ∀ x ∈ S, eqk lt p.1 x → x ≤ p.2 := by
  have hle := h.le
  have hg : ∀ t, t < S.length → S.getD t 0 ∈ S := fun t ht => by
    rw [List.getD_eq_getElem?_getD, List.getElem?_eq_getElem ht]; exact List.getElem_mem ht
  obtain ⟨⟨t1, a1, b1⟩, ⟨t2, a2, b2⟩, h3, h4⟩ := h.src p hp
  refine ⟨by rw [← b1]; exact hg t1 (by omega), by rw [← b2]; exact hg t2 (by omega), h3, fun x hx he => ?_⟩
  obtain ⟨t, ht, rfl⟩ := List.mem_iff_getElem.1 hx
  have := h4 t ht
  rw [List.getD_eq_getElem?_getD, List.getElem?_eq_getElem ht] at this
  exact this he
end Go.Proofs.Qxb6604637a
