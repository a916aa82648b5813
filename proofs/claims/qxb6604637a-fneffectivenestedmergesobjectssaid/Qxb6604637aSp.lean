/- The order, and merging, with no Go in sight. -/
import Derived.Test.Qxb6604637aRows
import Derived.Laws.Strings
namespace Go.Proofs.Qxb6604637a

/-! ### strings in their order -/
theorem bl_irr : ∀ l : List UInt8, Op.bytesLess l l = false
  | [] => rfl
  | a :: l => by simp [Op.bytesLess, bl_irr l]
theorem bl_tr : ∀ a b c : List UInt8, Op.bytesLess a b = true → Op.bytesLess b c = true → Op.bytesLess a c = true
  | _, [], _, h, _ => by simp [Op.bytesLess] at h
  | _, _ :: _, [], _, h => by simp [Op.bytesLess] at h
  | [], _ :: _, _ :: _, _, _ => rfl
  | a :: x, b :: y, c :: z, h, h' => by
    simp only [Op.bytesLess, Bool.or_eq_true, decide_eq_true_eq, Bool.and_eq_true, beq_iff_eq] at h h' ⊢
    rcases h with h | ⟨rfl, h⟩ <;> rcases h' with h' | ⟨rfl, h'⟩
    · exact .inl (UInt8.lt_trans h h')
    · exact .inl h
    · exact .inl h'
    · exact .inr ⟨rfl, bl_tr _ _ _ h h'⟩
theorem bl_tri : ∀ a b : List UInt8, Op.bytesLess a b = false → Op.bytesLess b a = false → a = b
  | [], [], _, _ => rfl
  | [], _ :: _, h, _ => by simp [Op.bytesLess] at h
  | _ :: _, [], _, h => by simp [Op.bytesLess] at h
  | a :: x, b :: y, h, h' => by
    simp only [Op.bytesLess, Bool.or_eq_false_iff, decide_eq_false_iff_not, Bool.and_eq_false_iff, beq_eq_false_iff_ne] at h h'
    have e : a = b := by
      have h1 := h.1
      have h2 := h'.1
      rw [UInt8.lt_iff_toNat_lt] at h1 h2
      exact UInt8.toNat_inj.1 (by omega)
    subst e
    rw [bl_tri x y (h.2.resolve_left (by simp)) (h'.2.resolve_left (by simp))]

theorem data_of_toList {a b : ByteArray} (h : a.toList = b.toList) : a = b := by
  rw [ByteArray.toList_eq, ByteArray.toList_eq] at h
  cases a; cases b
  congr 1
  exact Array.ext' h
def blt (a b : ByteArray) : Bool := Op.bytesLess a.toList b.toList
theorem blt_irr (a : ByteArray) : blt a a = false := bl_irr _
theorem blt_tr {a b c : ByteArray} (h : blt a b = true) (h' : blt b c = true) : blt a c = true := bl_tr _ _ _ h h'
theorem blt_tri {a b : ByteArray} (h : blt a b = false) (h' : blt b a = false) : a = b := data_of_toList (bl_tri _ _ h h')
theorem blt_ng {a b c : ByteArray} (h : blt a b = false) (h' : blt b c = false) : blt a c = false := by
  cases e : blt a c with
  | false => rfl
  | true =>
    cases e1 : blt b a with
    | true => rw [blt_tr e1 e] at h'; cases h'
    | false => obtain rfl := blt_tri h e1; rw [e] at h'; cases h'
theorem beq_str {a b : ByteArray} : (a.toList == b.toList) = true ↔ a = b := by
  rw [beq_iff_eq]
  exact ⟨data_of_toList, fun h => by rw [h]⟩
theorem beq_str_false {a b : ByteArray} : (a.toList == b.toList) = false ↔ a ≠ b := by
  rw [beq_eq_false_iff_ne]
  exact ⟨fun h e => h (by rw [e]), fun h e => h (data_of_toList e)⟩

/-! ### an order on indices -/
/-- what zzLess answers: by A, then (where there is one) by B -/
def lessB (A : Nat → ByteArray) (Bo : Option (Nat → ByteArray)) (i j : Nat) : Bool :=
  if (A i).toList == (A j).toList then (match Bo with | none => false | some B => blt (B i) (B j)) else blt (A i) (A j)

structure SW (lt : Nat → Nat → Bool) : Prop where
  irr : ∀ i, lt i i = false
  tr : ∀ i j k, lt i j = true → lt j k = true → lt i k = true
  ng : ∀ i j k, lt i j = false → lt j k = false → lt i k = false

theorem lessB_eq {A : Nat → ByteArray} {Bo : Option (Nat → ByteArray)} {i j : Nat} (h : A i = A j) : lessB A Bo i j = (match Bo with | none => false | some B => blt (B i) (B j)) := by
  unfold lessB; rw [if_pos (beq_str.2 h)]
theorem lessB_ne {A : Nat → ByteArray} {Bo : Option (Nat → ByteArray)} {i j : Nat} (h : A i ≠ A j) : lessB A Bo i j = blt (A i) (A j) := by
  unfold lessB; rw [if_neg (by rw [beq_str_false.2 h]; simp)]
theorem lessB_A {A : Nat → ByteArray} {Bo : Option (Nat → ByteArray)} {i j : Nat} (h : lessB A Bo i j = false) (h' : lessB A Bo j i = false) : A i = A j := by
  rcases Classical.em (A i = A j) with e | e
  · exact e
  · rw [lessB_ne e] at h
    rw [lessB_ne (Ne.symm e)] at h'
    exact blt_tri h h'
theorem lessB_B {A B : Nat → ByteArray} {i j : Nat} (h : lessB A (some B) i j = false) (h' : lessB A (some B) j i = false) : B i = B j := by
  have e := lessB_A h h'
  rw [lessB_eq e] at h
  rw [lessB_eq e.symm] at h'
  exact blt_tri h h'

theorem lessB_sw (A : Nat → ByteArray) (Bo : Option (Nat → ByteArray)) : SW (lessB A Bo) := by
  refine ⟨fun i => ?_, fun i j k h h' => ?_, fun i j k h h' => ?_⟩
  · rw [lessB_eq rfl]
    cases Bo with
    | none => rfl
    | some B => exact blt_irr _
  · rcases Classical.em (A i = A j) with e | e <;> rcases Classical.em (A j = A k) with e' | e'
    · rw [lessB_eq e] at h
      rw [lessB_eq e'] at h'
      rw [lessB_eq (e.trans e')]
      cases Bo with
      | none => cases h
      | some B => exact blt_tr h h'
    · rw [lessB_ne e'] at h'
      rw [lessB_ne (by rw [e]; exact e'), e]
      exact h'
    · rw [lessB_ne e] at h
      rw [lessB_ne (by rw [← e']; exact e), ← e']
      exact h
    · rw [lessB_ne e] at h
      rw [lessB_ne e'] at h'
      have h2 := blt_tr h h'
      rw [lessB_ne (fun e2 => by rw [e2, blt_irr] at h2; cases h2)]
      exact h2
  · rcases Classical.em (A i = A j) with e | e <;> rcases Classical.em (A j = A k) with e' | e'
    · rw [lessB_eq e] at h
      rw [lessB_eq e'] at h'
      rw [lessB_eq (e.trans e')]
      cases Bo with
      | none => rfl
      | some B => exact blt_ng h h'
    · rw [lessB_ne e'] at h'
      rw [lessB_ne (by rw [e]; exact e'), e]
      exact h'
    · rw [lessB_ne e] at h
      rw [lessB_ne (by rw [← e']; exact e), ← e']
      exact h
    · rw [lessB_ne e] at h
      rw [lessB_ne e'] at h'
      have h2 := blt_ng h h'
      rcases Classical.em (A i = A k) with e2 | e2
      · rw [← e2] at h'
        exact absurd (blt_tri h h') e
      · rw [lessB_ne e2]
        exact h2

/-- i comes ahead of j: by the order, or else by the index -/
def prec (lt : Nat → Nat → Bool) (i j : Nat) : Prop := lt i j = true ∨ (lt j i = false ∧ i < j)
theorem SW.prec_tr {lt : Nat → Nat → Bool} (S : SW lt) {i j k : Nat} (h : prec lt i j) (h' : prec lt j k) : prec lt i k := by
  rcases h with h | ⟨h, hi⟩ <;> rcases h' with h' | ⟨h', hj⟩
  · exact .inl (S.tr _ _ _ h h')
  · cases e : lt i k with
    | true => exact .inl e
    | false => rw [S.ng _ _ _ e h'] at h; cases h
  · cases e : lt i k with
    | true => exact .inl e
    | false => rw [S.ng _ _ _ h e] at h'; cases h'
  · exact .inr ⟨S.ng _ _ _ h' h, by omega⟩
theorem SW.not_both {lt : Nat → Nat → Bool} (S : SW lt) {i j : Nat} (h : prec lt i j) (h' : prec lt j i) : False := by
  rcases h with h | ⟨h, hi⟩ <;> rcases h' with h' | ⟨h', hj⟩
  · have := S.tr _ _ _ h h'; rw [S.irr] at this; cases this
  · rw [h] at h'; cases h'
  · rw [h'] at h; cases h
  · omega

/-- a merge under way -/
structure MInv (lt : Nat → Nat → Bool) (L R Y : List Nat) (i j : Nat) : Prop where
  y : Y.Pairwise (prec lt)
  yl : ∀ y ∈ Y, ∀ x ∈ L.drop i, prec lt y x
  yr : ∀ y ∈ Y, ∀ x ∈ R.drop j, prec lt y x
  perm : Y.Perm (L.take i ++ R.take j)

theorem MInv.start (lt : Nat → Nat → Bool) (L R : List Nat) : MInv lt L R [] 0 0 := ⟨List.Pairwise.nil, by simp, by simp, by simp⟩
theorem snoc_pairwise {r : Nat → Nat → Prop} {Y : List Nat} {x : Nat} (h : Y.Pairwise r) (hx : ∀ y ∈ Y, r y x) : (Y ++ [x]).Pairwise r := by
  rw [List.pairwise_append]
  exact ⟨h, List.pairwise_singleton _ _, fun a ha b hb => by rw [List.mem_singleton.1 hb]; exact hx a ha⟩
theorem drop_cons {L : List Nat} {i : Nat} (hi : i < L.length) : L.drop i = L[i] :: L.drop (i + 1) := List.drop_eq_getElem_cons hi

theorem MInv.right {lt : Nat → Nat → Bool} (S : SW lt) {L R Y : List Nat} {i j : Nat} (h : MInv lt L R Y i j) (hL : L.Pairwise (prec lt)) (hR : R.Pairwise (prec lt)) (hi : i < L.length) (hj : j < R.length) (hlt : lt R[j] L[i] = true) : MInv lt L R (Y ++ [R[j]]) i (j + 1) := by
  have hdL := drop_cons hi
  have hdR := drop_cons hj
  have pL : (L.drop i).Pairwise (prec lt) := hL.sublist (List.drop_sublist _ _)
  have pR : (R.drop j).Pairwise (prec lt) := hR.sublist (List.drop_sublist _ _)
  rw [hdL, List.pairwise_cons] at pL
  rw [hdR, List.pairwise_cons] at pR
  refine ⟨snoc_pairwise h.y (fun y hy => h.yr y hy _ (by rw [hdR]; exact List.mem_cons_self)), ?_, ?_, ?_⟩
  · intro y hy x hx
    rcases List.mem_append.1 hy with hy | hy
    · exact h.yl y hy x hx
    · rw [List.mem_singleton.1 hy]
      rw [hdL] at hx
      rcases List.mem_cons.1 hx with rfl | hx
      · exact .inl hlt
      · exact S.prec_tr (.inl hlt) (pL.1 x hx)
  · intro y hy x hx
    rcases List.mem_append.1 hy with hy | hy
    · exact h.yr y hy x (by rw [hdR]; exact List.mem_cons_of_mem _ hx)
    · rw [List.mem_singleton.1 hy]
      exact pR.1 x hx
  · rw [List.take_succ_eq_append_getElem hj, ← List.append_assoc]
    exact h.perm.append_right _

theorem MInv.left {lt : Nat → Nat → Bool} (S : SW lt) {L R Y : List Nat} {i j : Nat} (h : MInv lt L R Y i j) (hL : L.Pairwise (prec lt)) (hR : R.Pairwise (prec lt)) (hLR : ∀ x ∈ L, ∀ y ∈ R, x < y) (hi : i < L.length) (hj : j < R.length) (hlt : lt R[j] L[i] = false) : MInv lt L R (Y ++ [L[i]]) (i + 1) j := by
  have hdL := drop_cons hi
  have hdR := drop_cons hj
  have pL : (L.drop i).Pairwise (prec lt) := hL.sublist (List.drop_sublist _ _)
  have pR : (R.drop j).Pairwise (prec lt) := hR.sublist (List.drop_sublist _ _)
  rw [hdL, List.pairwise_cons] at pL
  rw [hdR, List.pairwise_cons] at pR
  have h0 : prec lt L[i] R[j] := .inr ⟨hlt, hLR _ (List.getElem_mem hi) _ (List.getElem_mem hj)⟩
  refine ⟨snoc_pairwise h.y (fun y hy => h.yl y hy _ (by rw [hdL]; exact List.mem_cons_self)), ?_, ?_, ?_⟩
  · intro y hy x hx
    rcases List.mem_append.1 hy with hy | hy
    · exact h.yl y hy x (by rw [hdL]; exact List.mem_cons_of_mem _ hx)
    · rw [List.mem_singleton.1 hy]
      exact pL.1 x hx
  · intro y hy x hx
    rcases List.mem_append.1 hy with hy | hy
    · exact h.yr y hy x hx
    · rw [List.mem_singleton.1 hy]
      rw [hdR] at hx
      rcases List.mem_cons.1 hx with rfl | hx
      · exact h0
      · exact S.prec_tr h0 (pR.1 x hx)
  · rw [List.take_succ_eq_append_getElem hi]
    refine (h.perm.append_right _).trans ?_
    rw [List.append_assoc, List.append_assoc]
    exact (List.perm_append_comm).append_left _

theorem MInv.done {lt : Nat → Nat → Bool} {L R Y : List Nat} {i j : Nat} (h : MInv lt L R Y i j) (hL : L.Pairwise (prec lt)) (hR : R.Pairwise (prec lt)) (he : ¬ (i < L.length ∧ j < R.length)) : (Y ++ L.drop i ++ R.drop j).Pairwise (prec lt) ∧ (Y ++ L.drop i ++ R.drop j).Perm (L ++ R) := by
  refine ⟨?_, ?_⟩
  · by_cases hi : i < L.length
    · have e : R.drop j = [] := List.drop_eq_nil_of_le (by omega)
      rw [e, List.append_nil, List.pairwise_append]
      exact ⟨h.y, hL.sublist (List.drop_sublist _ _), h.yl⟩
    · have e : L.drop i = [] := List.drop_eq_nil_of_le (by omega)
      rw [e, List.append_nil, List.pairwise_append]
      exact ⟨h.y, hR.sublist (List.drop_sublist _ _), h.yr⟩
  · have h1 := (h.perm.append_right (L.drop i)).append_right (R.drop j)
    refine h1.trans ?_
    have e1 : (L.take i ++ R.take j ++ L.drop i ++ R.drop j).Perm ((L.take i ++ L.drop i) ++ (R.take j ++ R.drop j)) := by
      rw [List.append_assoc, List.append_assoc, List.append_assoc]
      refine List.Perm.append_left _ ?_
      rw [← List.append_assoc, ← List.append_assoc]
      exact List.perm_append_comm.append_right _
    rw [List.take_append_drop, List.take_append_drop] at e1
    exact e1
end Go.Proofs.Qxb6604637a
