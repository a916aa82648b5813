/- What the decoding law wants, of numbers alone. -/
import Derived.Test.Qxb6602643aNsKit3
namespace Go.Proofs.Qxb6602643a

theorem sumF_pos_le (f : Nat → Nat) (m i : Nat) (h : i < m) : f i ≤ sumF f m := by
  induction m with
  | zero => omega
  | succ m ih =>
    simp only [sumF]
    by_cases e : i = m
    · subst e; omega
    · have := ih (by omega); omega

/-- in a complete code each node's bits are its two children's -/
theorem node_law (L C : Nat → Nat) (ch : Nat → Nat → Int) (hCH : CH L (lonT L 32) 0 ch) (hK : SK L (lonT L 32) = 2 ^ 32) (hC : ∀ c, c < 256 → C c < 18446744073709551616) (k : Nat) (hk : k < NB L 32) :
    ∃ P : Nat → Nat, (∀ b, b < 2 → P b < 18446744073709551616 ∧ ((∃ j, ch k b = (j : Nat) ∧ k < j ∧ j < NB L 32 ∧ lnG L C (lonT L 32) 0 j = P b) ∨ (∃ c, c < 256 ∧ ch k b = -1 - (c : Nat) ∧ C c = P b))) ∧
      lnG L C (lonT L 32) 0 k = (P 0 + P 1) % 18446744073709551616 ∧ onG L C (lonT L 32) 0 k = P 1 := by
  obtain ⟨q, d, hq, hd, _, hid⟩ := node_hit L k 32 hk
  have h32 := (oc_facts L q hq).2.2.1
  refine ⟨fun b => subP L C d (2 * pr L q d + b) % 18446744073709551616, ?_, ?_, ?_⟩
  · intro b hb
    refine ⟨Nat.mod_lt _ (by omega), ?_⟩
    obtain ⟨r, hr, hdr, hpr, hbr⟩ := child_hit L hK q d b hq hd hb
    have hidr : idN L r d = k := by rw [← hid]; unfold idN; rw [hpr]
    have hch : ch k b = tgt L r d := by
      have := hCH.1 r d hr hdr (.inl hr)
      rw [hidr, hbr] at this
      exact this
    have hx : pr L r (d + 1) = 2 * pr L q d + b := by
      have := pr_bit L r d (by omega)
      unfold bitN at hbr
      rw [hpr, hbr] at this
      exact this
    by_cases hl : d + 1 < ol L r
    · left
      refine ⟨idN L r (d + 1), by rw [hch]; unfold tgt; rw [if_pos hl], ?_, idN_lt L r (d + 1) hr hl, ?_⟩
      · have a := idN_between L r (d + 1) hr hl
        have b := idN_between L r d hr hdr
        omega
      · show lnG L C (lonT L 32) 0 (idN L r (d + 1)) = subP L C d (2 * pr L q d + b) % 18446744073709551616
        unfold lnG
        rw [gath_len L C r (d + 1) hr hl, ← hx, subP_node L C d r hr hl]
    · right
      have he : ol L r = d + 1 := by omega
      have hoc := (oc_facts L r hr).1
      refine ⟨oc L r, hoc, by rw [hch]; unfold tgt; rw [if_neg hl], ?_⟩
      show C (oc L r) = subP L C d (2 * pr L q d + b) % 18446744073709551616
      rw [← hx, subP_leaf L C d r hr he, Nat.mod_eq_of_lt (hC _ hoc)]
  · show lnG L C (lonT L 32) 0 k = (subP L C d (2 * pr L q d + 0) % 18446744073709551616 + subP L C d (2 * pr L q d + 1) % 18446744073709551616) % 18446744073709551616
    unfold lnG
    rw [← hid, gath_len L C q d hq hd, lenP_split L C d _ (by omega), Nat.add_zero]
    generalize subP L C d (2 * pr L q d) = a
    generalize subP L C d (2 * pr L q d + 1) = b
    omega
  · show onG L C (lonT L 32) 0 k = subP L C d (2 * pr L q d + 1) % 18446744073709551616
    unfold onG
    rw [← hid, gath_ones L C q d hq hd]

/-- the occurrences of the first c values that have a code -/
def totT (L C : Nat → Nat) (c : Nat) : Nat := sumF (fun e => if 1 ≤ L e then C e else 0) c % 18446744073709551616
theorem totT_yes (L C : Nat → Nat) (c : Nat) (h : 1 ≤ L c) : totT L C (c + 1) = (totT L C c + C c) % 18446744073709551616 := by
  unfold totT; simp only [sumF]; rw [if_pos h]; omega
theorem totT_no (L C : Nat → Nat) (c : Nat) (h : ¬ 1 ≤ L c) : totT L C (c + 1) = totT L C c := by
  unfold totT; simp only [sumF]; rw [if_neg h]; omega

theorem root_len (L C : Nat → Nat) (hL : ∀ c, c < 256 → L c ≤ 32) (hK : SK L (lonT L 32) ≤ 2 ^ 32) (hn : 0 < lonT L 32) : lnG L C (lonT L 32) 0 0 = totT L C 256 := by
  have hf := oc_facts L 0 hn
  have hp0 : ∀ q, q < lonT L 32 → pr L q 0 = 0 := fun q hq => by
    have := pr_lt L q 0 hK hq (by omega)
    rw [Nat.pow_zero] at this
    omega
  have hid : idN L 0 0 = 0 := by unfold idN; rw [hp0 0 hn]; simp [NB]
  have hg := gath_len L C 0 0 hn hf.2.1
  rw [hid] at hg
  unfold lnG totT
  rw [hg]
  congr 1
  unfold lenP
  rw [← sumF_oc L hL C]
  refine sumF_congr _ (fun q hq => ?_)
  rw [if_pos ⟨(oc_facts L q hq).2.1, by rw [hp0 q hq, hp0 0 hn]⟩]

theorem idN_root (L : Nat → Nat) (hK : SK L (lonT L 32) ≤ 2 ^ 32) (q : Nat) (hq : q < lonT L 32) : idN L q 0 = 0 := by
  have := pr_lt L q 0 hK hq (by omega)
  rw [Nat.pow_zero] at this
  unfold idN
  rw [show pr L q 0 = 0 from by omega]
  simp [NB]

theorem cle_yes (L : Nat → Nat) (c : Nat) (h : 1 ≤ L c) (h2 : L c ≤ 32) : cleTo L 32 (c + 1) = cleTo L 32 c + 1 := by
  simp only [cleTo]; rw [if_pos ⟨h, h2⟩]
theorem cle_no (L : Nat → Nat) (c : Nat) (h : ¬ 1 ≤ L c) : cleTo L 32 (c + 1) = cleTo L 32 c := by
  simp only [cleTo]; rw [if_neg (fun x => h x.1), Nat.add_zero]
theorem cle_all (L : Nat → Nat) : cleTo L 32 256 = lonT L 32 := (lonT_eq L 32).symm
end Go.Proofs.Qxb6602643a
