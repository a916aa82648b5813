/- MergeOwned on documents of objects; Merge; Effective. -/
import Derived.Test.Qxb6604637aMi
namespace Go.Proofs.Qxb6604637a
open Go.RowKit Go.Maps Go.MapKept Go.WideMaps Go.ChangeMaps
set_option linter.unusedVariables false

/-- block o is an object that reads as x -/
def Inn (w : World) (n : Nat) (o : Option Nat) (x : Option (Lit → Option Value)) : Prop := o.isSome = x.isSome ∧ ∀ b g, o = some b → x = some g → MapIs w b n g ∧ StrOnly g
/-- block b is a document of objects that reads as F -/
def NMap (w : World) (b n : Nat) (F : Lit → Option (Lit → Option Value)) : Prop := ∃ c : Lit → Option Nat, MapIs w b n (fun k => (c k).map im) ∧ ∀ k, Inn w n (c k) (F k)
/-- G laid over F, objects merged -/
def overN (G F : Lit → Option (Lit → Option Value)) : Lit → Option (Lit → Option Value) := fun k =>
  match G k, F k with
  | some g, some f => some (over g f)
  | some g, none => some g
  | none, x => x

theorem Inn.of_block {w w' : World} {n : Nat} {o : Option Nat} {x : Option (Lit → Option Value)} (h : Inn w n o x) (e : ∀ b, o = some b → w'.heap[b]? = w.heap[b]?) : Inn w' n o x :=
  ⟨h.1, fun b g hb hg => ⟨(h.2 b g hb hg).1.of_block (e b hb), (h.2 b g hb hg).2⟩⟩
theorem Inn.mono {w : World} {n m : Nat} {o : Option Nat} {x : Option (Lit → Option Value)} (h : Inn w n o x) (hm : n ≤ m) : Inn w m o x :=
  ⟨h.1, fun b g hb hg => ⟨(h.2 b g hb hg).1.mono hm, (h.2 b g hb hg).2⟩⟩
theorem Inn.lt {w : World} {n : Nat} {o : Option Nat} {x : Option (Lit → Option Value)} (h : Inn w n o x) {b : Nat} (hb : o = some b) : b < w.heap.size := by
  have h1 := h.1
  rw [hb] at h1
  obtain ⟨g, hg⟩ := Option.isSome_iff_exists.1 h1.symm
  exact (h.2 b g hb hg).1.lt
theorem Inn.below {w w' : World} {n : Nat} {o : Option Nat} {x : Option (Lit → Option Value)} (h : Inn w n o x) (hB : Below w.heap.size w w') : Inn w' n o x :=
  h.of_block fun b hb => hB.block b (h.lt hb)
theorem Inn.none_iff {w : World} {n : Nat} {o : Option Nat} {x : Option (Lit → Option Value)} (h : Inn w n o x) : o = none ↔ x = none := by
  have h1 := h.1
  cases o <;> cases x <;> simp_all
theorem NMap.below {w w' : World} {b n : Nat} {F : Lit → Option (Lit → Option Value)} (h : NMap w b n F) (hB : Below w.heap.size w w') : NMap w' b n F := by
  obtain ⟨c, h1, h2⟩ := h
  exact ⟨c, h1.below hB h1.lt, fun k => (h2 k).below hB⟩
theorem NMap.mono {w : World} {b n m : Nat} {F : Lit → Option (Lit → Option Value)} (h : NMap w b n F) (hm : n ≤ m) : NMap w b m F := by
  obtain ⟨c, h1, h2⟩ := h
  exact ⟨c, h1.mono hm, fun k => (h2 k).mono hm⟩
theorem NMap.congr {w : World} {b n : Nat} {F G : Lit → Option (Lit → Option Value)} (h : NMap w b n F) (e : ∀ k, F k = G k) : NMap w b n G := by rwa [show G = F from funext fun k => (e k).symm]
theorem NMap.lt {w : World} {b n : Nat} {F : Lit → Option (Lit → Option Value)} (h : NMap w b n F) : b < w.heap.size := by
  obtain ⟨c, h1, h2⟩ := h; exact h1.lt

theorem upd_map {co : Lit → Option Nat} {s : ByteArray} {b : Nat} : (fun k => (if k.sameKey (sk s) then some b else co k).map im) = upd (fun k => (co k).map im) (sk s) (some (im b)) := by
  funext k
  cases e : k.sameKey (sk s) <;> simp [upd, e]

set_option maxHeartbeats 4000000 in
set_option maxRecDepth 100000 in
theorem mergeOuter (w : World) (bl bh n1 n2 : Nat) (F G : Lit → Option (Lit → Option Value)) (hl : NMap w bl n1 F) (hh : NMap w bh n2 G) (hn : n1 + n2 < maxLen) :
    Calls Try.prog 24 #[.map (some bl), .map none, .map (some bh)] w fun e w' => ∃ b' x, e = .returned (.tuple #[.map (some b'), .map x]) ∧ NMap w' b' (n1 + n2) (overN G F) ∧ Below w.heap.size w w' := by
  obtain ⟨cF, hl1, hl2⟩ := hl
  obtain ⟨cG, hh1, hh2⟩ := hh
  obtain ⟨c1, hc1n, hc1⟩ := hl1.card
  obtain ⟨c2, hc2n, hc2⟩ := hh1.card
  have HL : Hid (MapIs w bl n1 (fun k => (cF k).map im)) := hl1
  have HL2 : Hid (∀ k, Inn w n1 (cF k) (F k)) := hl2
  have HH : Hid (MapIs w bh n2 (fun k => (cG k).map im)) := hh1
  have HH2 : Hid (∀ k, Inn w n2 (cG k) (G k)) := hh2
  have HC1 : Hid (Card (fun k => (cF k).map im) c1) := hc1
  have HC2 : Hid (Card (fun k => (cG k).map im) c2) := hc2
  clear hl1 hl2 hh1 hh2 hc1 hc2
  obtain ⟨gM, hgM⟩ : ∃ gM : Lit → Option Value, gM = fun k => (cG k).map im := ⟨_, rfl⟩
  obtain ⟨fM, hfM⟩ : ∃ fM : Lit → Option Value, fM = fun k => (cF k).map im := ⟨_, rfl⟩
  rw [← hgM] at HH HC2
  rw [← hfM] at HL HC1
  have GM : Hid (∀ k, gM k = (cG k).map im) := fun k => by rw [hgM]
  have FM : Hid (∀ k, fM k = (cF k).map im) := fun k => by rw [hfM]
  clear hgM hfM
  by_cases z2 : c2 = 0
  · subst z2
    go_enter Try.func24, Try.ntmps24
    go_wp2_with (first | (at_len; refine wpList_mlen _ rfl _ 44 20 rfl Try.underlying44 bh n2 gM rfl HH.out 0 HC2.out ?_))
    go_ret2
    refine ⟨bl, none, rfl, NMap.congr (NMap.mono (F := F) ⟨cF, HL.out.congr FM.out, HL2.out⟩ (by omega)) (fun k => ?_), Below.refl _ _⟩
    have h1 : cG k = none := by have := HC2.out.zero k; rw [GM.out k] at this; simpa using this
    simp [overN, (HH2.out k).none_iff.1 h1]
  · have z2' : ((c2 : Int) == 0) = false := by rw [beq_eq_false_iff_ne]; omega
    by_cases z1 : c1 = 0
    · subst z1
      go_enter Try.func24, Try.ntmps24
      go_wp2_with (first | (at_len; refine wpList_mlen _ rfl _ 44 20 rfl Try.underlying44 bh n2 gM rfl HH.out c2 HC2.out ?_) | (at_len; refine wpList_mlen _ rfl _ 44 20 rfl Try.underlying44 bl n1 fM rfl HL.out 0 HC1.out ?_))
      go_ret2
      refine ⟨bh, none, rfl, NMap.congr (NMap.mono (F := G) ⟨cG, HH.out.congr GM.out, HH2.out⟩ (by omega)) (fun k => ?_), Below.refl _ _⟩
      have h1 : cF k = none := by have := HC1.out.zero k; rw [FM.out k] at this; simpa using this
      cases e : G k <;> simp [overN, e, (HL2.out k).none_iff.1 h1]
    · have z1' : ((c1 : Int) == 0) = false := by rw [beq_eq_false_iff_ne]; omega
      clear z1 z2
      go_enter Try.func24, Try.ntmps24
      go_wp2_with (first | (at_len; refine wpList_mlen _ rfl _ 44 20 rfl Try.underlying44 bh n2 gM rfl HH.out c2 HC2.out ?_) | (at_len; refine wpList_mlen _ rfl _ 44 20 rfl Try.underlying44 bl n1 fM rfl HL.out c1 HC1.out ?_))
      refine (own_any w bl n1 fM HL.out).mono ?_
      rintro e w1 ⟨bo, bw, rfl, hne, hbo, hbw, hmo, hmw, hB1⟩
      have hlt := HH.out.lt
      have HH1 : Hid (MapIs w1 bh n2 gM) := HH.out.below hB1 hlt
      have HMO : Hid (MapIs w1 bo n1 fM) := hmo
      have HMW : Hid (MapIs w1 bw 0 (fun _ => none)) := hmw
      have HB1 : Hid (Below w.heap.size w w1) := hB1
      have hbo1 := hmo.lt
      have hbw1 := hmw.lt
      clear hmo hmw hB1
      go_wp2_with (first | (at_range; refine wpList_rangeM _ rfl _ 44 20 rfl Try.underlying44 bh n2 gM rfl HH1.out ?_; intro w2 cnt0 hcnt0 hrg0 hg0 hs0))
      go_frame
      obtain ⟨r, hr⟩ : ∃ r, r = w1.heap.size := ⟨_, rfl⟩
      rw [← hr] at hrg0 hs0 hbo1 hbw1 ⊢
      have hwr : w.heap.size ≤ r := by have := HB1.out.size; omega
      have HMO2 : Hid (MapIs w2 bo n1 fM) := HMO.out.kept hg0 (by simp)
      have HMW2 : Hid (MapIs w2 bw 0 (fun _ => none)) := HMW.out.kept hg0 (by simp)
      have HB2 : Hid (Below w.heap.size w w2) := HB1.out.grown hg0 HB1.out.size (fun j hj => by cases hj)
      have HR0 : Hid (Ranges w2 bh r n2 gM (fun k => (gM k).isSome) cnt0) := hrg0
      clear hr hrg0 hg0 hs0 HMO HMW HH1 HB1
      go_loopg [35] cnt0 (fun k s35 wr => ∃ (left : Lit → Bool) (nb : Nat) (co : Lit → Option Nat) (h fw : Lit → Option Value), Ranges wr bh r n2 gM left k ∧ MapIs wr bo nb h ∧ (∀ k, h k = (co k).map im) ∧ nb + k ≤ n1 + n2 ∧
        (∀ k, left k = true → co k = cF k) ∧ (∀ k, left k = false → Inn wr (n1 + n2) (co k) (overN G F k)) ∧ (∀ k b, co k = some b → b < w.heap.size ∨ r < b) ∧ MapIs wr bw nb fw ∧ (∀ k, left k = true → fw k = none) ∧ Below w.heap.size w wr)
      case atStart =>
        refine ⟨_, n1, cF, fM, fun _ => none, HR0.out, HMO2.out, FM.out, by omega, fun _ _ => rfl, fun k hk => ?_, fun k b hb => .inl ((HL2.out k).lt hb), HMW2.out.mono (Nat.zero_le _), fun _ _ => rfl, HB2.out⟩
        have h1 : cG k = none := by rw [GM.out k] at hk; simpa using hk
        have h2 := (HH2.out k).none_iff.1 h1
        simp only [overN, h2]
        exact ((HL2.out k).below HB2.out).mono (by omega)
      case round =>
        obtain ⟨left, nb, co, h, fw, hrg, hmo, hco0, hnb, hh1, hh2, hh3, hmw, hh4, hB⟩ := hrel
        have HRG : Hid (Ranges wr bh r n2 gM left gk) := hrg
        have HMO : Hid (MapIs wr bo nb h) := hmo
        have HMW : Hid (MapIs wr bw nb fw) := hmw
        have K0 : Hid (∀ k, h k = (co k).map im) := hco0
        have K1 : Hid (∀ k, left k = true → co k = cF k) := hh1
        have K2 : Hid (∀ k, left k = false → Inn wr (n1 + n2) (co k) (overN G F k)) := hh2
        have K3 : Hid (∀ k b, co k = some b → b < w.heap.size ∨ r < b) := hh3
        have K4 : Hid (∀ k, left k = true → fw k = none) := hh4
        have HB : Hid (Below w.heap.size w wr) := hB
        clear hrg hmo hco0 hh1 hh2 hh3 hh4 hmw hB HR0 HMO2 HMW2 HB2
        go_wp2_with (first | (at_next; refine wpList_nextM _ rfl _ rfl bh r n2 gM left gk rfl HRG.out ?_ ?_))
        · intro hc0 hl0
          go_wp2_with fail
          go_ret2
          exact ⟨bo, some bw, rfl, ⟨co, (HMO.out.mono (by omega)).congr K0.out, fun k => K2.out k (hl0 k)⟩, HB.out⟩
        · intro s v w3 cnt3 hss hls hgs hrg3 hlt3 hg3 hs3 hen
          obtain ⟨bhk, hbhk, hv⟩ := Option.map_eq_some_iff.1 ((GM.out _).symm.trans hgs)
          subst hv
          have HLS : Hid (left (sk s) = true) := hls
          have HBH : Hid (cG (sk s) = some bhk) := hbhk
          have HRG3 : Hid (Ranges w3 bh r n2 gM (fun z => left z && !z.sameKey (sk s)) cnt3) := hrg3
          have hrlt := HRG.out.lt
          have HMO3 : Hid (MapIs w3 bo nb h) := HMO.out.kept hg3 (by simp; omega)
          have HMW3 : Hid (MapIs w3 bw nb fw) := HMW.out.kept hg3 (by simp; omega)
          have HB3 : Hid (Below w.heap.size w w3) := HB.out.grown hg3 HB.out.size (fun j hj => by cases hj; exact hwr)
          have HG3 : Hid (wr.grownBy w3 (some r)) := hg3
          have HS3 : Hid (w3.heap.size = wr.heap.size) := hs3
          have hco : Hid (co (sk s) = cF (sk s)) := K1.out _ hls
          have hfw := K4.out _ hls
          clear hrg3 hg3 hs3 hgs hls hbhk HRG HMO HMW
          have z20 := zero20
          cases hcf : cF (sk s) with
          | none =>
            have hcv : h (sk s) = none := by rw [K0.out, hco.out, hcf]; rfl
            go_wp2_with (first | (at_lookup; refine wpList_look _ rfl _ _ 44 20 rfl Try.underlying44 .nilIface (zero20 _) bo nb h rfl HMO3.out s hss rfl ?_))
            refine (merges_low w3 .nilIface (.inl rfl) (im bhk) (.inr ⟨bhk, rfl⟩)).mono ?_
            rintro e w4 ⟨rfl, rfl⟩
            have hbhlt := (HH2.out (sk s)).lt HBH.out
            go_wp2_with (first
              | (at_mapUpdate; refine wpList_store _ rfl _ _ _ 44 20 rfl Try.underlying44 bo nb h rfl HMO3.out (by omega) s hss _ rfl rfl ?_; intro w5 hm5 hg5 hs5; have HMW5 : Hid (MapIs w5 bw nb fw) := HMW3.out.kept hg5 (by simp; omega))
              | (at_delete; refine wpList_drop _ rfl _ _ 52 52 rfl Try.underlying52 bw nb fw rfl HMW5.out s hss rfl ?_; intro w6 hm6 hg6 hs6; go_frame))
            have b5 := HB3.out.grown hg5 HB3.out.size (fun j hj => by cases hj; exact hbo)
            have b6 := b5.grown hg6 b5.size (fun j hj => by cases hj; exact hbw)
            go_roundg cnt3
            case measure => exact hlt3
            case rel =>
              have keep : ∀ b, b < wr.heap.size → b ≠ r → b ≠ bo → b ≠ bw → w6.heap[b]? = wr.heap[b]? := fun b h1 h2 h3 h4 => by
                rw [hg6.block b (by have := HS3.out; omega) (by simp; omega), hg5.block b (by have := HS3.out; omega) (by simp; omega), HG3.out.block b h1 (by simp; omega)]
              refine ⟨_, nb + 1, fun k => if k.sameKey (sk s) then some bhk else co k, _, _, (HRG3.out.kept hg5 (by simp; omega) (by simp; omega)).kept hg6 (by simp; omega) (by simp; omega), hm5.kept hg6 (by simp; omega), fun k => ?_, by omega, fun k hk => ?_, fun k hk => ?_, fun k b hb => ?_, hm6.mono (by omega), fun k hk => ?_, b6⟩
              · simp only [upd]
                cases e : k.sameKey (sk s)
                · simpa using K0.out k
                · rfl
              · simp only [Bool.and_eq_true, Bool.not_eq_true'] at hk
                simp only [hk.2, Bool.false_eq_true, if_false]
                exact K1.out k hk.1
              · cases e : k.sameKey (sk s) with
                | true =>
                  have ek := (sameKey_iff (isKey_sk s)).1 e
                  simp only [e, if_true]
                  rw [ek]
                  have hF : F (sk s) = none := (HL2.out (sk s)).none_iff.1 hcf
                  have hI := (HH2.out (sk s)).below b6
                  rw [HBH.out] at hI
                  have : overN G F (sk s) = G (sk s) := by cases e : G (sk s) <;> simp [overN, e, hF]
                  rw [this]
                  exact hI.mono (by omega)
                | false =>
                  simp only [e, Bool.not_false, Bool.and_true] at hk
                  simp only [e, Bool.false_eq_true, if_false]
                  have hI := K2.out k hk
                  refine hI.of_block fun b hb => keep b (hI.lt hb) ?_ ?_ ?_ <;> have := K3.out k b hb <;> omega
              · cases e : k.sameKey (sk s) with
                | true =>
                  simp only [e, if_true, Option.some.injEq] at hb
                  subst hb
                  exact .inl hbhlt
                | false =>
                  simp only [e, Bool.false_eq_true, if_false] at hb
                  exact K3.out k b hb
              · simp only [Bool.and_eq_true, Bool.not_eq_true'] at hk
                simp only [upd, hk.2, Bool.false_eq_true, if_false]
                exact K4.out k hk.1
          | some blk =>
            have hcv : h (sk s) = some (im blk) := by rw [K0.out, hco.out, hcf]; rfl
            go_wp2_with (first | (at_lookup; refine wpList_look _ rfl _ _ 44 20 rfl Try.underlying44 .nilIface (zero20 _) bo nb h rfl HMO3.out s hss rfl ?_))
            refine (merges_both w3 blk bhk).mono ?_
            rintro e w4 ⟨rfl, rfl⟩
            go_wp2_with (first | (at_lookup; refine wpList_look _ rfl _ _ 52 52 rfl Try.underlying52 (.map none) (zero52 _) bw nb fw rfl HMW3.out s hss rfl ?_))
            have hF0 := (HL2.out (sk s)).1
            rw [hcf] at hF0
            obtain ⟨f, hf⟩ := Option.isSome_iff_exists.1 hF0.symm
            have hG0 := (HH2.out (sk s)).1
            rw [HBH.out] at hG0
            obtain ⟨g, hg⟩ := Option.isSome_iff_exists.1 hG0.symm
            have hIF := (HL2.out (sk s)).2 blk f hcf hf
            have hIG := (HH2.out (sk s)).2 bhk g HBH.out hg
            have hblt := hIF.1.lt
            have hbhlt := hIG.1.lt
            refine (mergeInner w4 blk bhk n1 n2 f g (hIF.1.below HB3.out hblt) (hIG.1.below HB3.out hbhlt) hn hIF.2 hIG.2).mono ?_
            rintro e w5 ⟨b', xx, rfl, hm5, hb'5, hB5⟩
            have hov : Hid (overN G F (sk s) = some (over g f)) := by show overN G F (sk s) = _; simp [overN, hf, hg]
            have hst : Hid (StrOnly (over g f)) := hIG.2.over hIF.2
            have h4s := HS3.out
            have hb'r : b' < w.heap.size ∨ r < b' := by rcases hb'5 with rfl | rfl | h <;> omega
            have HM5 : Hid (MapIs w5 b' (n1 + n2) (over g f)) := hm5
            have hw5 : w4.heap.size ≤ w5.heap.size := hB5.size
            have HMO5 : Hid (MapIs w5 bo nb h) := HMO3.out.below hB5 HMO3.out.lt
            have HMW5 : Hid (MapIs w5 bw nb fw) := HMW3.out.below hB5 HMW3.out.lt
            have HRG5 : Hid (Ranges w5 bh r n2 gM (fun z => left z && !z.sameKey (sk s)) cnt3) := HRG3.out.below hB5 (by omega) (by omega) (Nat.le_refl _)
            have HB5 : Hid (Below w.heap.size w w5) := HB3.out.trans ⟨hB5.os, hB5.tape, hB5.output, hB5.size, fun k hk => hB5.block k (by have := HB3.out.size; omega)⟩
            have HK5 : Hid (∀ b, b < wr.heap.size → b ≠ r → w5.heap[b]? = wr.heap[b]?) := fun b h1 h2 => by
              rw [hB5.block b (by omega), HG3.out.block b h1 (by simp; omega)]
            clear hf hg hIF hIG hF0 hG0 hm5 hb'5 hB5 hfw hcv
            go_wp2_with (first
              | (at_mapUpdate; refine wpList_store _ rfl _ _ _ 44 20 rfl Try.underlying44 bo nb h rfl HMO5.out (by omega) s hss (im b') rfl rfl ?_; intro w6 hm6 hg6 hs6))
            refine (put_any w6 bw nb fw (HMW5.out.kept hg6 (by simp; omega)) (by omega) s hss xx).mono ?_
            rintro e w7 ⟨rfl, hm7, hg7, hs7⟩
            have b6 := HB5.out.grown hg6 HB5.out.size (fun j hj => by cases hj; exact hbo)
            have b7 := b6.grown hg7 b6.size (fun j hj => by cases hj; exact hbw)
            have HM7 : Hid (MapIs w7 bw (nb + 1) (upd fw (sk s) (xx.map (fun b => .map (some b))))) := hm7
            have HB7 : Hid (Below w.heap.size w w7) := b7
            have HG6 : Hid (w5.grownBy w6 (some bo)) := hg6
            have HG7 : Hid (w6.grownBy w7 (some bw)) := hg7
            have HM6 : Hid (MapIs w6 bo (nb + 1) (upd h (sk s) (some (im b')))) := hm6
            clear hm7 b6 b7 hg6 hg7 hm6
            go_wp2_with fail
            go_roundg cnt3
            case measure => exact hlt3
            case rel =>
              have hmo5 := HMO5.out.lt
              have hmw5 := HMW5.out.lt
              have keep : ∀ b, b < wr.heap.size → b ≠ r → b ≠ bo → b ≠ bw → w7.heap[b]? = wr.heap[b]? := fun b h1 h2 h3 h4 => by
                rw [HG7.out.block b (by omega) (by simp; omega), HG6.out.block b (by omega) (by simp; omega), HK5.out b h1 h2]
              refine ⟨_, nb + 1, fun k => if k.sameKey (sk s) then some b' else co k, _, _, (HRG5.out.kept HG6.out (by simp; omega) (by simp; omega)).kept HG7.out (by simp; omega) (by simp; omega), HM6.out.kept HG7.out (by simp; omega), fun k => ?_, by omega, fun k hk => ?_, fun k hk => ?_, fun k b hb => ?_, HM7.out, fun k hk => ?_, HB7.out⟩
              · simp only [upd]
                cases e : k.sameKey (sk s)
                · simpa using K0.out k
                · rfl
              · simp only [Bool.and_eq_true, Bool.not_eq_true'] at hk
                simp only [hk.2, Bool.false_eq_true, if_false]
                exact K1.out k hk.1
              · cases e : k.sameKey (sk s) with
                | true =>
                  have ek := (sameKey_iff (isKey_sk s)).1 e
                  simp only [e, if_true]
                  rw [ek, hov.out]
                  refine ⟨rfl, fun b g hb hg => ?_⟩
                  cases hb
                  cases hg
                  exact ⟨(HM5.out.kept HG6.out (by simp; omega)).kept HG7.out (by simp; omega), hst.out⟩
                | false =>
                  simp only [e, Bool.not_false, Bool.and_true] at hk
                  simp only [e, Bool.false_eq_true, if_false]
                  have hI := K2.out k hk
                  refine hI.of_block fun b hb => keep b (hI.lt hb) ?_ ?_ ?_ <;> have := K3.out k b hb <;> omega
              · cases e : k.sameKey (sk s) with
                | true =>
                  simp only [e, if_true, Option.some.injEq] at hb
                  subst hb
                  exact hb'r
                | false =>
                  simp only [e, Bool.false_eq_true, if_false] at hb
                  exact K3.out k b hb
              · simp only [Bool.and_eq_true, Bool.not_eq_true'] at hk
                simp only [upd, hk.2, Bool.false_eq_true, if_false]
                exact K4.out k hk.1
end Go.Proofs.Qxb6604637a
