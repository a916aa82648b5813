/- From the third phase of newShape to the fourth. -/
import Derived.Test.Qxb6602643aNsKit3
namespace Go.Proofs.Qxb6602643a
open Go.RowKit

theorem nodeCells_length (ds : List Nat) : (nodeCells ds).length = ds.length * 9 := by
  induction ds with
  | nil => rfl
  | cons d ds ih =>
    have : nodeCells (d :: ds) = (nodeA (d : Int)).toList ++ nodeCells ds := rfl
    rw [this, List.length_append, ih]
    simp [nodeA]
    omega

theorem nodeCells_get (ds : List Nat) (k j : Nat) (hk : k < ds.length) (hj : j < 9) : (nodeCells ds)[k * 9 + j]? = some (ndC 0 0 0 (ds.getD k 0) 0 0 j) := by
  induction ds generalizing k with
  | nil => simp at hk
  | cons d ds ih =>
    have e : nodeCells (d :: ds) = (nodeA (d : Int)).toList ++ nodeCells ds := rfl
    have hl : (nodeA (d : Int)).toList.length = 9 := rfl
    rw [e]
    cases k with
    | zero =>
      rw [List.getElem?_append_left (by rw [hl]; omega), Nat.zero_mul, Nat.zero_add]
      match j, hj with
      | 0, _ | 1, _ | 2, _ | 3, _ | 4, _ | 5, _ | 6, _ | 7, _ | 8, _ => rfl
    | succ k =>
      rw [List.getElem?_append_right (by rw [hl]; omega), hl, show (k + 1) * 9 + j - 9 = k * 9 + j from by omega, ih k (by simpa using hk)]
      rfl

theorem dl_stop (L : Nat → Nat) (d e : Nat) (h : lonT L 32 ≤ lonT L d) (hde : d ≤ e) : dl L e = dl L d := by
  induction e with
  | zero => have : d = 0 := by omega
            subst this; rfl
  | succ e ih =>
    by_cases x : d = e + 1
    · subst x; rfl
    · have := lonT_mono L d e (by omega)
      simp only [dl, NN]
      rw [if_neg (by omega), ih (by omega)]
      simp

theorem NsC.toD {L C : Nat → Nat} {w wr : World} {g M d nb cap : Nat} {F : Nat → Nat} (h : NsC L w g M (dl L d) nb cap F wr) (hP : PI L d 0 F) (hd : d ≤ 32) (hl : lonT L 32 ≤ lonT L d) :
    NsD L w g M nb cap F (fun _ => 0) (lnG L C 0 0) (onG L C 0 0) (fun _ _ => 0) wr := by
  have e1 : dl L d = dl L 32 := (dl_stop L d 32 hl hd).symm
  rw [e1] at h
  have hlen := dl_length L 32
  obtain ⟨hB, hsh, hown, hpb⟩ := h
  rw [hlen] at hsh hown
  refine ⟨hB, hsh, hpb, ?_, ?_, (hown.lt nb rfl).1, ?_⟩
  · intro q e hq he hc
    refine hP q e hq he (.inl ?_)
    have h1 := (lon_le_iff L q e hq).2 he
    by_cases x : e < d
    · exact x
    · have := lonT_mono L d e (by omega)
      omega
  · rcases hown.2 with ⟨hv, hz⟩ | ⟨g', c', cur, hv, hb, hh, hn, hm, hs, ht⟩
    · simp at hv
    · simp only [Value.slice.injEq, Option.some.injEq, Addr.mk.injEq] at hv
      obtain ⟨⟨rfl, _, _⟩, _, rfl⟩ := hv
      refine ⟨cur, hh, ?_, ?_⟩
      · rw [hs]; exact Nat.mul_le_mul_right 9 hn
      · intro x hx
        obtain ⟨k, j, hj, rfl⟩ := split9 x
        rw [ndF_at _ _ _ _ _ k j hj]
        have := nodeCells_get (dl L 32) k j (by rw [hlen]; omega) hj
        rw [← ht, List.getElem?_take_of_lt hx] at this
        rw [← Array.getElem?_toList]
        exact this
  · rcases hown.2 with ⟨hv, hz⟩ | ⟨g', c', cur, hv, hb, hh, hn, hm, hs, ht⟩
    · simp at hv
    · simp only [Value.slice.injEq, Option.some.injEq, Addr.mk.injEq] at hv
      obtain ⟨_, _, rfl⟩ := hv
      exact hn

theorem CH_start (L : Nat → Nat) : CH L 0 0 (fun _ _ => 0) :=
  ⟨fun q e _ _ hc => by rcases hc with hc | ⟨_, hc⟩ <;> omega, fun _ _ _ => rfl⟩

theorem shr_val (L : Nat → Nat) (q d : Nat) (hq : q < lonT L 32) (hd : d < ol L q) : (pr L q (ol L q) : Int) / 2 ^ (ol L q - d) = (pr L q d : Int) := by
  have h32 := (oc_facts L q hq).2.2.1
  rw [two_pow_cast, ← Int.natCast_ediv, pr_shift L q (ol L q) d h32 (by omega)]
end Go.Proofs.Qxb6602643a
