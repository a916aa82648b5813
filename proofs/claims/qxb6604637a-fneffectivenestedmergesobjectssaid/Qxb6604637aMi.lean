/- MergeOwned on objects of strings. -/
import Derived.Test.Qxb6604637aMo
namespace Go.Proofs.Qxb6604637a
open Go.RowKit Go.Maps Go.MapKept Go.WideMaps Go.ChangeMaps
set_option linter.unusedVariables false

/-- g laid over f -/
def over (g f : Lit → Option Value) : Lit → Option Value := fun k => (g k).or (f k)
/-- strings alone -/
def StrOnly (f : Lit → Option Value) : Prop := ∀ k v, f k = some v → ∃ s, v = is s
theorem StrOnly.over {g f : Lit → Option Value} (hg : StrOnly g) (hf : StrOnly f) : StrOnly (over g f) := by
  intro k v h
  unfold Qxb6604637a.over at h
  cases e : g k with
  | none => rw [e] at h; exact hf k v h
  | some u => rw [e] at h; cases h; exact hg k v e
theorem zero20 (w : World) : (zeroValue 20).run Try.prog w = .ok .nilIface w := by kernel_rfl
theorem zero52 (w : World) : (zeroValue 52).run Try.prog w = .ok (.map none) w := by kernel_rfl

theorem left_step {g f h : Lit → Option Value} {left : Lit → Bool} (hh : ∀ k, h k = if left k then f k else over g f k) {s : ByteArray} {v : Value} (hv : over g f (sk s) = some v) :
    ∀ k, upd h (sk s) (some v) k = if (left k && !k.sameKey (sk s)) then f k else over g f k := by
  intro k
  cases e : k.sameKey (sk s) with
  | true =>
    obtain rfl := (sameKey_iff (isKey_sk s)).1 e
    rw [upd_same _ (isKey_sk s), hv]
    simp
  | false =>
    simp only [upd, e, Bool.not_false, Bool.and_true]
    exact hh k

set_option maxHeartbeats 4000000 in
set_option maxRecDepth 100000 in
theorem mergeInner (w : World) (bl bh n1 n2 : Nat) (f g : Lit → Option Value) (hl : MapIs w bl n1 f) (hh : MapIs w bh n2 g) (hn : n1 + n2 < maxLen) (hf : StrOnly f) (hg : StrOnly g) :
    Calls Try.prog 24 #[.map (some bl), .map none, .map (some bh)] w fun e w' => ∃ b' x, e = .returned (.tuple #[.map (some b'), .map x]) ∧ MapIs w' b' (n1 + n2) (over g f) ∧ (b' = bl ∨ b' = bh ∨ w.heap.size ≤ b') ∧ Below w.heap.size w w' := by
  obtain ⟨c1, hc1n, hc1⟩ := hl.card
  obtain ⟨c2, hc2n, hc2⟩ := hh.card
  have HL : Hid (MapIs w bl n1 f) := hl
  have HH : Hid (MapIs w bh n2 g) := hh
  have HC1 : Hid (Card f c1) := hc1
  have HC2 : Hid (Card g c2) := hc2
  have HF : Hid (StrOnly f) := hf
  have HG : Hid (StrOnly g) := hg
  clear hl hh hc1 hc2 hf hg
  by_cases z2 : c2 = 0
  · subst z2
    go_enter Try.func24, Try.ntmps24
    go_wp2_with (first | (at_len; refine wpList_mlen _ rfl _ 44 20 rfl Try.underlying44 bh n2 g rfl HH.out 0 HC2.out ?_))
    go_ret2
    exact ⟨bl, none, rfl, (HL.out.mono (by omega)).congr (fun k => by simp [over, HC2.out.zero k]), .inl rfl, Below.refl _ _⟩
  · have z2' : ((c2 : Int) == 0) = false := by rw [beq_eq_false_iff_ne]; omega
    by_cases z1 : c1 = 0
    · subst z1
      go_enter Try.func24, Try.ntmps24
      go_wp2_with (first | (at_len; refine wpList_mlen _ rfl _ 44 20 rfl Try.underlying44 bh n2 g rfl HH.out c2 HC2.out ?_) | (at_len; refine wpList_mlen _ rfl _ 44 20 rfl Try.underlying44 bl n1 f rfl HL.out 0 HC1.out ?_))
      go_ret2
      exact ⟨bh, none, rfl, (HH.out.mono (by omega)).congr (fun k => by simp [over, HC1.out.zero k]), .inr (.inl rfl), Below.refl _ _⟩
    · have z1' : ((c1 : Int) == 0) = false := by rw [beq_eq_false_iff_ne]; omega
      clear z1 z2
      go_enter Try.func24, Try.ntmps24
      go_wp2_with (first | (at_len; refine wpList_mlen _ rfl _ 44 20 rfl Try.underlying44 bh n2 g rfl HH.out c2 HC2.out ?_) | (at_len; refine wpList_mlen _ rfl _ 44 20 rfl Try.underlying44 bl n1 f rfl HL.out c1 HC1.out ?_))
      refine (own_any w bl n1 f HL.out).mono ?_
      rintro e w1 ⟨bo, bw, rfl, hne, hbo, hbw, hmo, hmw, hB1⟩
      have hlt := HH.out.lt
      have HH1 : Hid (MapIs w1 bh n2 g) := HH.out.below hB1 hlt
      have HMO : Hid (MapIs w1 bo n1 f) := hmo
      have HMW : Hid (MapIs w1 bw 0 (fun _ => none)) := hmw
      have HB1 : Hid (Below w.heap.size w w1) := hB1
      have hbo1 := hmo.lt
      have hbw1 := hmw.lt
      clear hmo hmw hB1
      go_wp2_with (first | (at_range; refine wpList_rangeM _ rfl _ 44 20 rfl Try.underlying44 bh n2 g rfl HH1.out ?_; intro w2 cnt0 hcnt0 hrg0 hg0 hs0))
      go_frame
      obtain ⟨r, hr⟩ : ∃ r, r = w1.heap.size := ⟨_, rfl⟩
      rw [← hr] at hrg0 hs0 hbo1 hbw1 ⊢
      have hwr : w.heap.size ≤ r := by have := HB1.out.size; omega
      have hB2 : Below w.heap.size w w2 := HB1.out.grown hg0 HB1.out.size (fun j hj => by cases hj)
      have HMO2 : Hid (MapIs w2 bo n1 f) := HMO.out.kept hg0 (by simp)
      have HMW2 : Hid (MapIs w2 bw 0 (fun _ => none)) := HMW.out.kept hg0 (by simp)
      have HB2 : Hid (Below w.heap.size w w2) := hB2
      have HR0 : Hid (Ranges w2 bh r n2 g (fun k => (g k).isSome) cnt0) := hrg0
      clear hB2 hr hrg0 hg0 hs0 HMO HMW HH1 HB1
      go_loopg [35] cnt0 (fun k s35 wr => ∃ (left : Lit → Bool) (nb : Nat) (h : Lit → Option Value), Ranges wr bh r n2 g left k ∧ MapIs wr bo nb h ∧ nb + k ≤ n1 + n2 ∧ (∀ k, h k = if left k then f k else over g f k) ∧ MapIs wr bw 0 (fun _ => none) ∧ Below w.heap.size w wr)
      case atStart => exact ⟨_, n1, f, HR0.out, HMO2.out, by omega, fun k => by cases e : g k <;> simp [over, e], HMW2.out, HB2.out⟩
      case round =>
        obtain ⟨left, nb, h, hrg, hmo, hnb, hh, hmw, hB⟩ := hrel
        have HRG : Hid (Ranges wr bh r n2 g left gk) := hrg
        have HMO : Hid (MapIs wr bo nb h) := hmo
        have HHH : Hid (∀ k, h k = if left k then f k else over g f k) := hh
        have HMW : Hid (MapIs wr bw 0 (fun _ => none)) := hmw
        have HB : Hid (Below w.heap.size w wr) := hB
        clear hrg hmo hh hmw hB HR0 HMO2 HMW2 HB2
        go_wp2_with (first | (at_next; refine wpList_nextM _ rfl _ rfl bh r n2 g left gk rfl HRG.out ?_ ?_))
        · intro hc0 hl0
          go_wp2_with fail
          go_ret2
          refine ⟨bo, some bw, rfl, (HMO.out.mono (by omega)).congr (fun k => ?_), .inr (.inr hbo), HB.out⟩
          rw [HHH.out k, hl0 k]
          rfl
        · intro s v w3 cnt3 hss hls hgs hrg3 hlt3 hg3 hs3 hen
          obtain ⟨t, rfl⟩ := HG.out _ _ hgs
          have hov : over g f (sk s) = some (is t) := by simp [over, hgs]
          have HOV : Hid (over g f (sk s) = some (is t)) := hov
          have hlow : (h (sk s)).getD .nilIface = .nilIface ∨ ∃ u, (h (sk s)).getD .nilIface = is u := by
            rw [HHH.out (sk s), hls]
            simp only [if_true]
            cases e : f (sk s) with
            | none => exact .inl rfl
            | some v => obtain ⟨u, rfl⟩ := HF.out _ _ e; exact .inr ⟨u, rfl⟩
          have HLOW : Hid ((h (sk s)).getD .nilIface = .nilIface ∨ ∃ u, (h (sk s)).getD .nilIface = is u) := hlow
          have HRG3 : Hid (Ranges w3 bh r n2 g (fun z => left z && !z.sameKey (sk s)) cnt3) := hrg3
          have HMO3 : Hid (MapIs w3 bo nb h) := HMO.out.kept hg3 (by simp; omega)
          have HMW3 : Hid (MapIs w3 bw 0 (fun _ => none)) := HMW.out.kept hg3 (by simp; omega)
          have HB3 : Hid (Below w.heap.size w w3) := HB.out.grown hg3 HB.out.size (fun j hj => by cases hj; exact hwr)
          clear hov hlow hrg3 hg3 hs3 hgs hls HRG HMO HMW HB
          have z20 := zero20
          go_wp2_with (first | (at_lookup; refine wpList_look _ rfl _ _ 44 20 rfl Try.underlying44 .nilIface (zero20 _) bo nb h rfl HMO3.out s hss rfl ?_))
          refine (merges_low w3 _ HLOW.out (is t) (.inl ⟨t, rfl⟩)).mono ?_
          rintro e w4 ⟨rfl, rfl⟩
          go_wp2_with (first
            | (at_mapUpdate; refine wpList_store _ rfl _ _ _ 44 20 rfl Try.underlying44 bo nb h rfl HMO3.out (by omega) s hss _ rfl rfl ?_; intro w5 hm5 hg5 hs5; have HMW5 : Hid (MapIs w5 bw 0 (fun _ => none)) := HMW3.out.kept hg5 (by simp; omega))
            | (at_delete; refine wpList_drop _ rfl _ _ 52 52 rfl Try.underlying52 bw 0 (fun _ => none) rfl HMW5.out s hss rfl ?_; intro w6 hm6 hg6 hs6; go_frame))
          go_roundg cnt3
          case measure => exact hlt3
          case rel =>
            refine ⟨_, nb + 1, _, (HRG3.out.kept hg5 (by simp; omega) (by simp; omega)).kept hg6 (by simp; omega) (by simp; omega), hm5.kept hg6 (by simp; omega), by omega, left_step HHH.out HOV.out, hm6.congr (fun k => by simp [upd]), ?_⟩
            have b5 := HB3.out.grown hg5 HB3.out.size (fun j hj => by cases hj; exact hbo)
            exact b5.grown hg6 b5.size (fun j hj => by cases hj; exact hbw)
end Go.Proofs.Qxb6604637a
