/- Lists of strings that grow beside one another. -/
import Derived.Test.Qxb6604637aSm
import Derived.Test.Qxb6604637aLwC
import Derived.Test.Qxb6604637aGp
namespace Go.Proofs.Qxb6604637a
open Go.RowKit
set_option linter.unusedVariables false

/-- v is a list of the strings Xs, in a block of its own from base on -/
def SL (w : World) (base : Nat) (v : Value) (Xs : List ByteArray) : Prop := w.ownsRow base 9 1 v Xs.length (Xs.map Value.string)
/-- v is a list of bools -/
def BL (w : World) (base : Nat) (v : Value) (Xs : List Bool) : Prop := w.ownsRow base 4 1 v Xs.length (Xs.map Value.bool)
/-- v is a list of indices -/
def IL (w : World) (base : Nat) (v : Value) (Xs : List Nat) : Prop := w.ownsRow base 3 1 v Xs.length (idxV Xs)
/-- two lists lie apart -/
def Dist (u v : Value) : Prop := ∀ b, u.ownBlock = some b → v.ownBlock ≠ some b
theorem Dist.symm {u v : Value} (h : Dist u v) : Dist v u := fun b hb hu => h b hu hb
theorem own_lt {w : World} {base e size n b : Nat} {v : Value} {xs : List Value} (h : w.ownsRow base e size v n xs) (hb : v.ownBlock = some b) : b < w.heap.size ∧ base ≤ b := by
  rcases h.2 with ⟨rfl, _⟩ | ⟨g, cap, cur, rfl, h1, h2, _⟩
  · cases hb
  · cases hb
    exact ⟨(Array.getElem?_eq_some_iff.1 h2).1, h1⟩
theorem own_keep {w w' : World} {base e size n : Nat} {v u : Value} {xs : List Value} (h : w.ownsRow base e size v n xs) (hg : w.grownBy w' u.ownBlock) (hd : Dist v u) : w'.ownsRow base e size v n xs := by
  refine h.kept hg ?_
  cases e : v.ownBlock with
  | none => exact .inl rfl
  | some b => exact .inr (fun h => hd b e h.symm)
theorem Dist.app {w : World} {base e size n k : Nat} {u v v' : Value} {xs : List Value} (h : Dist u v) (hu : w.ownsRow base e size u n xs) (hv : v'.ownBlock = v.ownBlock ∨ v'.ownBlock = some k) (hk : w.heap.size ≤ k) : Dist u v' := by
  intro b hb hv'
  rcases hv with hv | hv
  · exact h b hb (hv ▸ hv')
  · rw [hv] at hv'
    cases hv'
    have := (own_lt hu hb).1
    omega
theorem Dist.nil (v : Value) : Dist (.slice none 0 0) v := fun b hb => by cases hb
theorem own_nil (w : World) (base e size : Nat) : w.ownsRow base e size (.slice none 0 0) 0 [] := World.ownsRow_nil w base e size
/-- what a list that has stopped growing is to a reader -/
theorem SL.strs {w : World} {base : Nat} {v : Value} {Xs : List ByteArray} (h : SL w base v Xs) : ∃ a c, v = .slice a Xs.length c ∧ Strs w a Xs.length (fun k => Xs.getD k ByteArray.empty) := by
  have h0 := h
  rcases h0.2 with ⟨rfl, hn⟩ | ⟨g, cap, cur, rfl, _⟩
  · exact ⟨none, 0, by rw [hn], .inl hn⟩
  · refine ⟨_, cap, rfl, ?_⟩
    by_cases e : Xs.length = 0
    · exact .inl e
    · refine .inr ⟨g, rfl, fun k hk => ?_⟩
      refine (owns_cells h rfl).2.2 k _ ?_
      rw [List.getElem?_map, List.getElem?_eq_getElem hk, Option.map_some]
      show _ = some (Value.string (Xs.getD k ByteArray.empty))
      rw [List.getD_eq_getElem?_getD, List.getElem?_eq_getElem hk]
      rfl
theorem IL.idx {w : World} {base : Nat} {v : Value} {Xs : List Nat} (h : IL w base v Xs) : ∃ a c, v = .slice a Xs.length c ∧ Xs.length ≤ c ∧ IdxAt w a Xs := by
  have h0 := h
  rcases h0.2 with ⟨rfl, hn⟩ | ⟨g, cap, cur, rfl, _, _, hc, _⟩
  · exact ⟨none, 0, by rw [hn], by omega, .inl (List.length_eq_zero_iff.1 hn)⟩
  · refine ⟨_, cap, rfl, hc, .inr ⟨g, 0, rfl, fun k hk => ?_⟩⟩
    rw [Nat.zero_add]
    refine (owns_cells h rfl).2.2 k _ ?_
    rw [idxV, List.getElem?_map, List.getElem?_eq_getElem hk, Option.map_some, getD_eq hk]

/-- how a step of growth keeps the rest -/
theorem app_grown {w w' : World} {o : Obj} {v : Value} (h : (w.alloc o).grownBy w' v.ownBlock) : w.grownBy w' v.ownBlock := (World.grownBy_alloc w o _).trans h
theorem app_below {B : Nat} {a w w' : World} {base e size n : Nat} {v : Value} {xs : List Value} (h : Below B a w) (hown : w.ownsRow base e size v n xs) (hg : w.grownBy w' v.ownBlock) (hB : B ≤ base) (hs : B ≤ w.heap.size) : Below B a w' :=
  h.grown hg hs (fun k hk => by have := (own_lt hown hk).2; omega)

/-- the groups' counts and the pointer into the keys -/
structure MC (fo P : Nat → ByteArray) (m : Nat) (S : List Nat) (s g : Nat) (PL : List (Nat × Nat)) (cn : Nat → Nat) : Prop where
  cnt : ∀ k, k < m → cn k = (PL.filter (fun p => (fo p.1).toList == (P k).toList)).length
  gm : g ≤ m
  gle : ∀ k, k < g → ∀ u, s ≤ u → u < S.length → blt (P k) (fo (S.getD u 0)) = true
theorem MC.start (fo P : Nat → ByteArray) (m : Nat) (S : List Nat) : MC fo P m S 0 0 [] (fun _ => 0) := ⟨fun k _ => rfl, Nat.zero_le _, fun k hk => absurd hk (by omega)⟩

theorem lessB_le {A : Nat → ByteArray} {Bo : Option (Nat → ByteArray)} {i j : Nat} (h : prec (lessB A Bo) i j) : blt (A j) (A i) = false := by
  rcases Classical.em (A i = A j) with e | e
  · rw [e]; exact blt_irr _
  · rcases h with h | ⟨h, _⟩
    · rw [lessB_ne e] at h
      cases e2 : blt (A j) (A i) with
      | false => rfl
      | true =>
        have h3 := blt_tr e2 h
        rw [blt_irr] at h3
        cases h3
    · rwa [lessB_ne (Ne.symm e)] at h

theorem MC.step {fo P : Nat → ByteArray} {Bo : Option (Nat → ByteArray)} {m : Nat} {S : List Nat} {s e g g' : Nat} {PL : List (Nat × Nat)} {cn : Nat → Nat} (h : MC fo P m S s g PL cn) (hS : S.Pairwise (prec (lessB fo Bo))) (hP : ∀ k k', k < k' → k' < m → blt (P k) (P k') = true) (hse : s ≤ e) (he : e < S.length) (hg : g' < m) (hgo : P g' = fo (S.getD s 0)) (z : Nat) :
    MC fo P m S (e + 1) g' (PL ++ [(S.getD s 0, z)]) (fun k => if k = g' then cn k + 1 else cn k) := by
  refine ⟨fun k hk => ?_, by omega, fun k hk u h1 h2 => ?_⟩
  · rw [List.filter_append, List.length_append, ← h.cnt k hk]
    clear hS h
    generalize S.getD s 0 = x0 at *
    by_cases e : k = g'
    · subst e
      have h1 : ((fo x0).toList == (P k).toList) = true := beq_str.2 hgo.symm
      rw [List.filter_cons_of_pos (by exact h1)]
      simp
    · have h1 : ((fo x0).toList == (P k).toList) = false := by
        rw [beq_str_false, ← hgo]
        intro h2
        rcases Nat.lt_or_gt_of_ne e with h3 | h3
        · have := hP k g' h3 hg; rw [h2, blt_irr] at this; cases this
        · have := hP g' k h3 hk; rw [h2, blt_irr] at this; cases this
      rw [List.filter_cons_of_neg (by simp only [h1]; simp)]
      simp [e]
  · have h3 : blt (P k) (fo (S.getD s 0)) = true := by rw [← hgo]; exact hP k g' hk hg
    have h4 := lessB_le (srt_get hS (show s < u by omega) h2)
    cases e : blt (P k) (fo (S.getD u 0)) with
    | true => rfl
    | false => rw [blt_ng e h4] at h3; cases h3
end Go.Proofs.Qxb6604637a
