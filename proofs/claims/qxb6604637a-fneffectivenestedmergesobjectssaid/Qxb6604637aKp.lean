/- What the documents hold, with no Go in sight. -/
import Derived.Test.Qxb6604637aLwF
namespace Go.Proofs.Qxb6604637a
open Go.Maps
set_option linter.unusedVariables false

/-- one entry laid into a document -/
def stepD (o x v : ByteArray) (b : Bool) (F : Doc) : Doc := fun k => if k.sameKey (sk o) then some (addE b x v ((F (sk o)).getD (fun _ => none))) else F k
/-- the document of the first t entries, laid one by one -/
def FF (fo fi fv : Nat → ByteArray) (fb : Nat → Bool) : Nat → Doc
  | 0 => fun _ => none
  | t + 1 => stepD (fo t) (fi t) (fv t) (fb t) (FF fo fi fv fb t)

theorem addE_over (b : Bool) (x v : ByteArray) (d f : Lit → Option Value) : addE b x v (over d f) = over (addE b x v d) f := by
  cases b with
  | true => rfl
  | false =>
    funext k
    simp only [addE, Bool.false_eq_true, if_false, over, upd]
    cases e : k.sameKey (sk x) <;> simp
theorem over_none (f : Lit → Option Value) : over (fun _ => none) f = f := by funext k; simp [over]

theorem step_overN (o x v : ByteArray) (b : Bool) (D F : Doc) : stepD o x v b (overN D F) = overN (stepD o x v b D) F := by
  funext k
  cases e : k.sameKey (sk o) with
  | true =>
    obtain rfl := (sameKey_iff (isKey_sk o)).1 e
    simp only [stepD, overN, e, if_true]
    cases e1 : D (sk o) with
    | none =>
      cases e2 : F (sk o) with
      | none => rfl
      | some f =>
        simp only [Option.getD_some, Option.getD_none, Option.some.injEq]
        rw [← addE_over, over_none]
    | some d =>
      cases e2 : F (sk o) with
      | none => rfl
      | some f =>
        simp only [Option.getD_some, Option.some.injEq]
        exact addE_over _ _ _ _ _
  | false =>
    simp only [stepD, overN, e, Bool.false_eq_true, if_false]

theorem flat_get {α : Type} (X : Nat → Nat → α) (L : Nat → Nat) (z : α) : ∀ (N i j : Nat), i < N → j < L i → (flatL X L N).getD (psum L i + j) z = X i j
  | 0, _, _, h, _ => absurd h (by omega)
  | N + 1, i, j, hi, hj => by
    simp only [flatL]
    by_cases e : i = N
    · subst e
      rw [List.getD_eq_getElem?_getD, List.getElem?_append_right (by rw [flat_len]; omega), flat_len, show psum L i + j - psum L i = j by omega]
      simp [rowT, hj]
    · have h1 := flat_get X L z N i j (by omega) hj
      have h2 : psum L i + j < (flatL X L N).length := by
        rw [flat_len]
        have := psum_mono L (show i + 1 ≤ N by omega)
        simp only [psum] at this
        omega
      rw [List.getD_eq_getElem?_getD, List.getElem?_append_left h2, ← List.getD_eq_getElem?_getD]
      exact h1

section
variable (O I V : Nat → Nat → ByteArray) (B : Nat → Nat → Bool) (L : Nat → Nat) (N : Nat)

theorem doc_flat : ∀ (i : Nat), i ≤ N → ∀ j, j ≤ L i → (i = N → j = 0) →
    overN (docF O I V B i j) (FF (fun k => (flatL O L N).getD k ByteArray.empty) (fun k => (flatL I L N).getD k ByteArray.empty) (fun k => (flatL V L N).getD k ByteArray.empty) (fun k => (flatL B L N).getD k false) (psum L i)) =
      FF (fun k => (flatL O L N).getD k ByteArray.empty) (fun k => (flatL I L N).getD k ByteArray.empty) (fun k => (flatL V L N).getD k ByteArray.empty) (fun k => (flatL B L N).getD k false) (psum L i + j) := by
  intro i hi j
  induction j with
  | zero => intro _ _; funext k; simp [docF, overN]
  | succ j ih =>
    intro hj h0
    have hiN : i < N := by
      rcases Nat.lt_or_ge i N with h | h
      · exact h
      · exact absurd (h0 (by omega)) (by omega)
    have ih' := ih (by omega) (fun h => by omega)
    rw [← Nat.add_assoc]
    simp only [FF]
    rw [flat_get O L _ N i j hiN (by omega), flat_get I L _ N i j hiN (by omega), flat_get V L _ N i j hiN (by omega), flat_get B L _ N i j hiN (by omega), ← ih', step_overN]
    rfl

theorem fold_flat : ∀ i, i ≤ N → foldD (fun i => docF O I V B i (L i)) i = FF (fun k => (flatL O L N).getD k ByteArray.empty) (fun k => (flatL I L N).getD k ByteArray.empty) (fun k => (flatL V L N).getD k ByteArray.empty) (fun k => (flatL B L N).getD k false) (psum L i)
  | 0, _ => rfl
  | i + 1, h => by
    simp only [foldD, psum]
    rw [fold_flat i (by omega), doc_flat O I V B L N i (by omega) (L i) (Nat.le_refl _) (fun h => by omega)]
end

section
variable (fo fi fv : Nat → ByteArray) (fb : Nat → Bool)

/-- the last writer's value at a member -/
def lastV : Nat → Lit → Lit → Option Value
  | 0, _, _ => none
  | t + 1, k, ki => if k.sameKey (sk (fo t)) && ki.sameKey (sk (fi t)) && !fb t then some (is (fv t)) else lastV t k ki

theorem FF_some : ∀ t k, (FF fo fi fv fb t k).isSome = true ↔ ∃ u, u < t ∧ k = sk (fo u)
  | 0, k => by simp [FF]
  | t + 1, k => by
    simp only [FF, stepD]
    cases e : k.sameKey (sk (fo t)) with
    | true =>
      have ek := (sameKey_iff (isKey_sk _)).1 e
      simp only [if_true, Option.isSome_some, true_iff]
      exact ⟨t, by omega, ek⟩
    | false =>
      simp only [Bool.false_eq_true, if_false]
      rw [FF_some t k]
      constructor
      · rintro ⟨u, hu, h⟩; exact ⟨u, by omega, h⟩
      · rintro ⟨u, hu, h⟩
        by_cases e2 : u = t
        · subst e2; rw [h, (sameKey_iff (isKey_sk _)).2 rfl] at e; cases e
        · exact ⟨u, by omega, h⟩

theorem FF_val : ∀ t k ki, ((FF fo fi fv fb t k).getD (fun _ => none)) ki = lastV fo fi fv fb t k ki
  | 0, k, ki => rfl
  | t + 1, k, ki => by
    simp only [FF, stepD, lastV]
    cases e : k.sameKey (sk (fo t)) with
    | true =>
      have ek := (sameKey_iff (isKey_sk _)).1 e
      subst ek
      simp only [if_true, Option.getD_some, Bool.true_and]
      have ih := FF_val t (sk (fo t)) ki
      cases eb : fb t with
      | true => simp only [addE, if_true, Bool.not_true, Bool.and_false, Bool.false_eq_true, if_false]; exact ih
      | false =>
        simp only [addE, Bool.false_eq_true, if_false, upd, Bool.not_false, Bool.and_true]
        cases e2 : ki.sameKey (sk (fi t)) with
        | true => rfl
        | false => simp only [Bool.false_eq_true, if_false]; exact ih
    | false =>
      simp only [Bool.false_eq_true, if_false, Bool.false_and]
      exact FF_val t k ki

theorem lastV_some : ∀ t k ki, (lastV fo fi fv fb t k ki).isSome = true ↔ ∃ u, u < t ∧ fb u = false ∧ k = sk (fo u) ∧ ki = sk (fi u)
  | 0, k, ki => by simp [lastV]
  | t + 1, k, ki => by
    simp only [lastV]
    cases e : (k.sameKey (sk (fo t)) && ki.sameKey (sk (fi t)) && !fb t) with
    | true =>
      simp only [if_true, Option.isSome_some, true_iff]
      simp only [Bool.and_eq_true, Bool.not_eq_true'] at e
      exact ⟨t, by omega, e.2, (sameKey_iff (isKey_sk _)).1 e.1.1, (sameKey_iff (isKey_sk _)).1 e.1.2⟩
    | false =>
      simp only [Bool.false_eq_true, if_false]
      rw [lastV_some t k ki]
      constructor
      · rintro ⟨u, hu, h⟩; exact ⟨u, by omega, h⟩
      · rintro ⟨u, hu, h1, h2, h3⟩
        by_cases e2 : u = t
        · subst e2
          rw [h2, h3, (sameKey_iff (isKey_sk _)).2 rfl, (sameKey_iff (isKey_sk _)).2 rfl, h1] at e
          cases e
        · exact ⟨u, by omega, h1, h2, h3⟩

theorem lastV_last : ∀ t x, x < t → fb x = false → (∀ y, y < t → fb y = false → fo y = fo x → fi y = fi x → y ≤ x) → lastV fo fi fv fb t (sk (fo x)) (sk (fi x)) = some (is (fv x))
  | 0, x, h, _, _ => absurd h (by omega)
  | t + 1, x, hx, hb, hl => by
    simp only [lastV]
    by_cases e : x = t
    · subst e
      rw [(sameKey_iff (isKey_sk _)).2 rfl, (sameKey_iff (isKey_sk _)).2 rfl, hb]
      rfl
    · cases e2 : ((sk (fo x)).sameKey (sk (fo t)) && (sk (fi x)).sameKey (sk (fi t)) && !fb t) with
      | true =>
        simp only [Bool.and_eq_true, Bool.not_eq_true'] at e2
        have h1 := sk_inj ((sameKey_iff (isKey_sk _)).1 e2.1.1)
        have h2 := sk_inj ((sameKey_iff (isKey_sk _)).1 e2.1.2)
        have := hl t (by omega) e2.2 h1.symm h2.symm
        omega
      | false =>
        simp only [Bool.false_eq_true, if_false]
        exact lastV_last t x (by omega) hb (fun y hy => hl y (by omega))
end

theorem nodup_map {α β : Type} {f : α → β} {l : List α} (h : l.Pairwise (fun a b => f a ≠ f b)) : (l.map f).Nodup := List.pairwise_map.2 h

theorem keyOwed (fo fi fv : Nat → ByteArray) (fb : Nat → Bool) (n : Nat) : KeyOwed (FF fo fi fv fb n) fo fi fv fb n := by
  intro m P hs hcov hsrc
  refine ⟨⟨(List.range m).map (fun k => sk (P k)), nodup_map ?_, by simp, fun k => ?_⟩, ?_⟩
  · rw [List.pairwise_iff_getElem]
    intro i j hi hj hij he
    simp only [List.getElem_range] at he
    have h1 := hs i j hij (by simpa using hj)
    rw [sk_inj he, blt_irr] at h1
    cases h1
  · rw [FF_some, List.mem_map]
    constructor
    · rintro ⟨j, hj, rfl⟩
      obtain ⟨x, hx, e⟩ := hsrc j (List.mem_range.1 hj)
      exact ⟨x, hx, by rw [e]⟩
    · rintro ⟨u, hu, rfl⟩
      obtain ⟨j, hj, e⟩ := hcov u hu
      exact ⟨j, List.mem_range.2 hj, by rw [e]⟩
  · intro S PL cn hperm hsort hgi hcnt
    have hlive : ∀ x, x ∈ S ↔ x < n ∧ fb x = false := fun x => (hperm.mem_iff).trans live_mem
    have hget : ∀ k, (∃ u, u < n ∧ k = sk (fo u)) → ∃ g, FF fo fi fv fb n k = some g ∧ ∀ ki, g ki = lastV fo fi fv fb n k ki := fun k hk => by
      obtain ⟨g, hg⟩ := Option.isSome_iff_exists.1 ((FF_some fo fi fv fb n k).2 hk)
      refine ⟨g, hg, fun ki => ?_⟩
      have := FF_val fo fi fv fb n k ki
      rw [hg] at this
      exact this
    refine ⟨fun k hk => ?_, fun k hk => ?_⟩
    · obtain ⟨x, hx, e⟩ := hsrc k hk
      obtain ⟨g, hg, hv⟩ := hget (sk (P k)) ⟨x, hx, by rw [e]⟩
      refine ⟨g, hg, (PL.filter (fun p => (fo p.1).toList == (P k).toList)).map (fun p => sk (fi p.1)), nodup_map ?_, by rw [List.length_map, hcnt k hk], fun ki => ?_⟩
      · have h1 : (PL.filter (fun p => (fo p.1).toList == (P k).toList)).Pairwise (fun p q => lessB fo (some fi) p.1 q.1 = true) := hgi.srt.sublist List.filter_sublist
        refine List.Pairwise.imp_of_mem ?_ h1
        intro p q hp hq hlt he
        have e1 : fo p.1 = P k := beq_str.1 (List.mem_filter.1 hp).2
        have e2 : fo q.1 = P k := beq_str.1 (List.mem_filter.1 hq).2
        rw [lessB_eq (e1.trans e2.symm)] at hlt
        have e3 : fi p.1 = fi q.1 := sk_inj he
        simp only [e3, blt_irr] at hlt
        cases hlt
      · rw [hv ki, lastV_some, List.mem_map]
        constructor
        · rintro ⟨p, hp, rfl⟩
          obtain ⟨hp1, hp2⟩ := List.mem_filter.1 hp
          have h2 := (hlive _).1 (hgi.of hp1).1
          exact ⟨p.1, h2.1, h2.2, by rw [beq_str.1 hp2], rfl⟩
        · rintro ⟨u, hu, hb, h1, rfl⟩
          obtain ⟨p, hp, he⟩ := hgi.all ((hlive u).2 ⟨hu, hb⟩)
          have hk1 := eqk_key he
          refine ⟨p, List.mem_filter.2 ⟨hp, beq_str.2 ?_⟩, by rw [hk1.2]⟩
          rw [hk1.1]
          exact (sk_inj h1).symm
    · have hp := List.getElem_mem hk
      obtain ⟨h1, h2, h3, h4⟩ := hgi.of hp
      have hl1 := (hlive _).1 h1
      have hl2 := (hlive _).1 h2
      have hk3 := eqk_key h3
      obtain ⟨g, hg, hv⟩ := hget (sk (fo PL[k].1)) ⟨_, hl1.1, rfl⟩
      rw [map_getD hk, map_getD hk, map_getD hk]
      refine ⟨g, hg, ?_⟩
      rw [hv, hk3.1, hk3.2]
      refine lastV_last fo fi fv fb n PL[k].2 hl2.1 hl2.2 (fun y hy hb e1 e2 => ?_)
      exact h4 y ((hlive y).2 ⟨hy, hb⟩) (eqk_of (hk3.1.trans e1.symm) (hk3.2.trans e2.symm))

theorem owed (O I V : Nat → Nat → ByteArray) (B : Nat → Nat → Bool) (L : Nat → Nat) (N : Nat) : KeyOwed (foldD (fun i => docF O I V B i (L i)) N) (fun k => (flatL O L N).getD k ByteArray.empty) (fun k => (flatL I L N).getD k ByteArray.empty) (fun k => (flatL V L N).getD k ByteArray.empty) (fun k => (flatL B L N).getD k false) (psum L N) := by
  rw [fold_flat O I V B L N N (Nat.le_refl _)]
  exact keyOwed _ _ _ _ _
end Go.Proofs.Qxb6604637a
