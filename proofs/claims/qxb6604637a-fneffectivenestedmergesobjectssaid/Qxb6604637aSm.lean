/- zzMergeSort. -/
import Derived.Test.Qxb6604637aSo
import Derived.Maps.AppendAt
namespace Go.Proofs.Qxb6604637a
open Go.RowKit
set_option linter.unusedVariables false

theorem Try.size3c : (Try.prog.info? 3).map (·.size) = some 1 := by kernel_rfl

/-- a row of indices -/
def IdxAt (w : World) (a : Option Addr) (X : List Nat) : Prop := X = [] ∨ ∃ g off : Nat, a = some ⟨g, off, none⟩ ∧ ∀ k, k < X.length → w.cell? ⟨g, off + k, none⟩ = some (.int .i64 (X.getD k 0 : Nat))
/-- the strings by which it is sorted -/
def Keys (w : World) (va vb : Value) (n : Nat) (A : Nat → ByteArray) (Bo : Option (Nat → ByteArray)) : Prop :=
  ∃ (ga ca : Nat) (b : Option Addr) (nb cb : Nat), va = .slice (some ⟨ga, 0, none⟩) n ca ∧ vb = .slice b nb cb ∧ (∀ k, k < n → w.cell? ⟨ga, k, none⟩ = some (.string (A k))) ∧ StrsO w b n Bo ∧ (Bo ≠ none → nb = n)
theorem Keys.below {w w' : World} {va vb : Value} {n : Nat} {A : Nat → ByteArray} {Bo : Option (Nat → ByteArray)} (h : Keys w va vb n A Bo) (hB : Below w.heap.size w w') : Keys w' va vb n A Bo := by
  obtain ⟨ga, ca, b, nb, cb, h1, h2, h3, h4, h5⟩ := h
  refine ⟨ga, ca, b, nb, cb, h1, h2, fun k hk => ?_, ?_, h5⟩
  · rw [hB.cell (block_lt_of_cell (h3 k hk))]; exact h3 k hk
  · cases Bo with
    | none => exact h4
    | some B =>
      obtain ⟨g, e, h⟩ := h4
      refine ⟨g, e, fun k hk => ?_⟩
      rw [hB.cell (block_lt_of_cell (h k hk))]; exact h k hk

/-- what zzMergeSort hands back -/
def SmPost (w : World) (lt : Nat → Nat → Bool) (X : List Nat) (e : Ending) (w' : World) : Prop :=
  ∃ (g c : Nat) (S : List Nat), e = .returned (.slice (some ⟨g, 0, none⟩) X.length c) ∧ w.heap.size ≤ g ∧ X.length ≤ c ∧ S.length = X.length ∧ (∀ k, k < X.length → w'.cell? ⟨g, k, none⟩ = some (.int .i64 (S.getD k 0 : Nat))) ∧ S.Perm X ∧ S.Pairwise (prec lt) ∧ Below w.heap.size w w'

set_option maxHeartbeats 2000000 in
set_option maxRecDepth 100000 in
theorem sort_small (w : World) (a : Option Addr) (c : Nat) (va vb : Value) (X : List Nat) (lt : Nat → Nat → Bool) (hX : IdxAt w a X) (hlen : X.length ≤ 1) :
    Calls Try.prog 9 #[.slice a X.length c, va, vb] w (SmPost w lt X) := by
  obtain ⟨l, hl⟩ : ∃ l, l = X.length := ⟨_, rfl⟩
  have hmk := fun w => run_make_row' (P := Try.prog) 27 3 (.int .i64 0) 8 Try.underlying27 Try.info3c rfl .i64 .i64 l (by omega) (by omega) w
  have hI : (l : Int) ≤ 1 := by omega
  obtain ⟨cs, hcs⟩ : ∃ cs, cs = tab l (fun k => Value.int .i64 (X.getD k 0 : Nat)) := ⟨_, rfl⟩
  have hcl : cs.length = l := by rw [hcs, tab_length]
  have hone : ∀ v ∈ cs, v.oneCell' = true := fun v hv => by rw [hcs] at hv; obtain ⟨j, _, rfl⟩ := tab_mem hv; rfl
  have HCS : Hid (cs = tab l (fun k => Value.int .i64 (X.getD k 0 : Nat))) := hcs
  have HX : Hid (IdxAt w a X) := hX
  have HL : Hid (l = X.length) := hl
  rw [← hl]
  clear hcs hX hl
  go_enter Try.func9, Try.ntmps9
  go_upto_region 3 with fail
  have b1 := (Below.refl w.heap.size w).alloc (Nat.le_refl _) (Obj.cells (madeCells #[.int .i64 0] l) 3)
  have r1 : (w.alloc (Obj.cells (madeCells #[.int .i64 0] l) 3)).heap[w.heap.size]? = some (.cells (madeCells #[.int .i64 0] l).toList.toArray 3 (0, 0)) := by rw [heap_alloc_new]
  have hml : (madeCells #[Value.int .i64 0] l).toList.length = l := by simp [madeCells]
  generalize w.alloc (Obj.cells (madeCells #[.int .i64 0] l) 3) = W at *
  generalize (madeCells #[Value.int .i64 0] l).toList = cur at *
  have hmin : cs.length = Nat.min l l := by rw [hcl]; exact (Nat.min_self l).symm
  have hfit : 0 + cs.length ≤ cur.length := by omega
  have hpos : 0 < cs.length → (some (⟨w.heap.size, 0, none⟩ : Addr) = some ⟨w.heap.size, 0, none⟩) ∧ ∃ ad, a = some ad ∧ ∀ j v, cs[j]? = some v → W.cell? (ad.add j) = some v := fun hp => by
    refine ⟨rfl, ?_⟩
    rcases HX.out with e | ⟨g, off, rfl, h⟩
    · have := HL.out; rw [e] at this; simp at this; omega
    · refine ⟨_, rfl, fun j v hv => ?_⟩
      rw [HCS.out] at hv
      obtain ⟨h1, rfl⟩ := tab_some hv
      obtain rfl : j = 0 := by omega
      have h2 := h 0 (by have := HL.out; omega)
      show W.cell? ⟨g, off, none⟩ = _
      rw [b1.cell (p := ⟨g, off, none⟩) (block_lt_of_cell h2)]
      exact h2
  have HP : Hid _ := hpos
  clear hpos
  go_wp2_with (first | (refine wpList_copy_splice rfl _ _ 27 27 rfl 3 Try.underlying27 Try.size3c (some ⟨w.heap.size, 0, none⟩) a l l l c rfl rfl w.heap.size 0 cur 3 r1 cs hmin HP.out hfit hone w.heap.size w b1 (Nat.le_refl _) ?_))
  intro W2 h2 b2
  go_wp2_with fail
  go_ret
  refine ⟨w.heap.size, l, X, by rw [← HL.out]; rfl, Nat.le_refl _, by have := HL.out; omega, rfl, fun k hk => ?_, List.Perm.refl _, ?_, b2⟩
  · have hk' : k < l := by have := HL.out; omega
    have e : (splice cur 0 cs)[k]? = some (.int .i64 (X.getD k 0 : Nat)) := by
      unfold splice
      rw [List.take_zero, List.nil_append, List.getElem?_append_left (by omega), HCS.out]
      exact tab_get hk'
    simp [World.cell?, h2.out, e]
  · have := HL.out
    match X, hlen with
    | [], _ => exact List.Pairwise.nil
    | [x], _ => exact List.pairwise_singleton _ _

theorem add_form {w : World} {g j : Nat} {p : Nat → Value → Prop} (h : ∀ k u, p k u → w.cell? ⟨g, j + k, none⟩ = some u) : ∀ k u, p k u → w.cell? ((⟨g, j, none⟩ : Addr).add k) = some u := by
  intro k u hu
  have h0 := h k u hu
  by_cases e : k = 0
  · subst e; exact h0
  · simpa [Addr.add, e] using h0
/-- indices as cells -/
def idxV (Y : List Nat) : List Value := Y.map (fun y => Value.int .i64 (y : Nat))
theorem idxV_length (Y : List Nat) : (idxV Y).length = Y.length := by simp [idxV]
theorem idxV_snoc (Y : List Nat) (x : Nat) : idxV (Y ++ [x]) = idxV Y ++ [.int .i64 (x : Nat)] := by simp [idxV]
theorem idxV_append (Y Z : List Nat) : idxV (Y ++ Z) = idxV Y ++ idxV Z := by simp [idxV]
theorem idxV_one (Y : List Nat) : ∀ v ∈ idxV Y, v.oneCell' = true := by
  intro v hv
  obtain ⟨y, _, rfl⟩ := List.mem_map.1 hv
  rfl
theorem idxV_get {Y : List Nat} {k : Nat} {v : Value} (h : (idxV Y)[k]? = some v) : k < Y.length ∧ v = .int .i64 (Y.getD k 0 : Nat) := by
  have hk := (List.getElem?_eq_some_iff.1 h).1
  rw [idxV_length] at hk
  refine ⟨hk, ?_⟩
  simp only [idxV, List.getElem?_map, List.getElem?_eq_getElem hk, Option.map_some, Option.some.injEq] at h
  rw [← h, List.getD_eq_getElem?_getD, List.getElem?_eq_getElem hk]
  rfl
theorem getD_eq {Y : List Nat} {k : Nat} (h : k < Y.length) : Y.getD k 0 = Y[k] := by rw [List.getD_eq_getElem?_getD, List.getElem?_eq_getElem h]; rfl
theorem StrsO.below {w w' : World} {b : Option Addr} {n : Nat} {Bo : Option (Nat → ByteArray)} (h : StrsO w b n Bo) (hB : Below w.heap.size w w') : StrsO w' b n Bo := by
  cases Bo with
  | none => exact h
  | some B =>
    obtain ⟨g, e, h⟩ := h
    refine ⟨g, e, fun k hk => ?_⟩
    rw [hB.cell (block_lt_of_cell (h k hk))]; exact h k hk
theorem ownsRow_drewN {w : World} {base e size n : Nat} {v : Value} {xs : List Value} (h : w.ownsRow base e size v n xs) (k : Nat) : (w.drewN k).ownsRow base e size v n xs := h
theorem owns_cells {w : World} {base n cap : Nat} {v : Value} {xs : List Value} {e : TypeId} {o : Nat} (h : w.ownsRow base e 1 v n xs) (hv : v = .slice (some ⟨o, 0, none⟩) n cap) : base ≤ o ∧ o < w.heap.size ∧ ∀ k u, xs[k]? = some u → w.cell? ⟨o, k, none⟩ = some u := by
  rcases h.2 with ⟨h1, _⟩ | ⟨g, cap', cur, h1, hb, hc, _, _, _, ht⟩
  · rw [hv] at h1; cases h1
  · rw [hv] at h1
    simp only [Value.slice.injEq, Option.some.injEq, Addr.mk.injEq] at h1
    obtain ⟨⟨rfl, _, _⟩, _, rfl⟩ := h1
    refine ⟨hb, (Array.getElem?_eq_some_iff.1 hc).1, fun k u hu => ?_⟩
    rw [← ht, List.getElem?_take] at hu
    split at hu
    · rw [Array.getElem?_toList] at hu
      simp [World.cell?, hc, hu]
    · cases hu

set_option maxHeartbeats 8000000 in
set_option maxRecDepth 100000 in
theorem sort_any (n : Nat) (hn : n ≤ 1048576) (A : Nat → ByteArray) (Bo : Option (Nat → ByteArray)) (va vb : Value) : ∀ (f : Nat) (w : World) (a : Option Addr) (c : Nat) (X : List Nat), X.length ≤ f → X.length ≤ c → X.length ≤ n → IdxAt w a X → (X ≠ [] → Keys w va vb n A Bo) → X.Pairwise (· < ·) → (∀ x ∈ X, x < n) →
    Calls Try.prog 9 #[.slice a X.length c, va, vb] w (SmPost w (lessB A Bo) X) := by
  intro f
  induction f with
  | zero => intro w a c X h _ _ hX _ _ _; exact sort_small w a c va vb X _ hX (by omega)
  | succ f ih =>
    intro w a c X hf hc hln hX hK hp hlt
    obtain ⟨i3, hi3, hz3, hs3, hb3⟩ := info_parts Try.info3c
    have HI3 : Hid (Try.prog.info? 3 = some i3 ∧ i3.zero = some (.int .i64 0) ∧ i3.size = 1 ∧ i3.bytes = 8) := ⟨hi3, hz3, hs3, hb3⟩
    clear hi3 hz3 hs3 hb3
    by_cases hs : X.length ≤ 1
    · exact sort_small w a c va vb X _ hX hs
    · obtain ⟨ga, ca, b, nb, cb, rfl, rfl, hA, hB, hnb⟩ := hK (by rintro rfl; simp at hs)
      rcases hX with rfl | ⟨g, off, rfl, hcell⟩
      · simp at hs
      · obtain ⟨l, hl⟩ : ∃ l, l = X.length := ⟨_, rfl⟩
        obtain ⟨m, hm⟩ : ∃ m, m = l / 2 := ⟨_, rfl⟩
        have hm1 : 1 ≤ m := by omega
        have hm2 : m < l := by omega
        have hlc : l ≤ c := by omega
        have hI : ¬ (l : Int) ≤ 1 := by omega
        have hdv : (l : Int) / 2 = (m : Int) := by omega
        have hdt : (l : Int).tdiv 2 = (m : Int) := by rw [Int.tdiv_eq_ediv_of_nonneg (by omega)]; omega
        have HM : Hid (m = l / 2) := hm
        have HL : Hid (l = X.length) := hl
        have HC : Hid (∀ k, k < X.length → w.cell? ⟨g, off + k, none⟩ = some (.int .i64 (X.getD k 0 : Nat))) := hcell
        have HKY : Hid (Keys w (.slice (some ⟨ga, 0, none⟩) n ca) (.slice b nb cb) n A Bo) := ⟨ga, ca, b, nb, cb, rfl, rfl, hA, hB, hnb⟩
        have HPP : Hid (X.Pairwise (· < ·)) := hp
        have HLT : Hid (∀ x ∈ X, x < n) := hlt
        have IH : Hid _ := ih
        rw [← hl] at hf hln ⊢
        clear hm hl hcell hA hB hnb hp hlt ih hc hs hK
        go_enter Try.func9, Try.ntmps9
        go_wp2_with fail
        have hlm : (X.take m).length = m := by rw [List.length_take]; have := HL.out; omega
        have hld : (X.drop m).length = l - m := by rw [List.length_drop, ← HL.out]
        have e1 := IH.out w (some ⟨g, off, none⟩) c (X.take m) (by omega) (by omega) (by omega) (.inr ⟨g, off, rfl, fun k hk => by
          rw [HC.out k (by have := HL.out; omega)]
          have hk' : k < m := by omega
          simp [List.getD_eq_getElem?_getD, hk']⟩) (fun _ => HKY.out) (HPP.out.sublist (List.take_sublist _ _)) (fun x hx => HLT.out x (List.mem_of_mem_take hx))
        rw [hlm] at e1
        refine e1.mono ?_
        rintro e w1 ⟨g1, c1, S1, he, hg1, hc1, hl1, hs1, hp1, hw1, hb1⟩
        rw [hlm] at he hc1 hl1 hs1
        subst he
        have HS1 : Hid (∀ k, k < m → w1.cell? ⟨g1, k, none⟩ = some (.int .i64 (S1.getD k 0 : Nat))) := hs1
        have HP1 : Hid (S1.Perm (X.take m)) := hp1
        have HW1 : Hid (S1.Pairwise (prec (lessB A Bo))) := hw1
        have HB1 : Hid (Below w.heap.size w w1) := hb1
        clear e1 hs1 hp1 hw1 hb1
        go_wp2_with fail
        have e2 := IH.out w1 (some ⟨g, off + m, none⟩) (c - m) (X.drop m) (by omega) (by omega) (by omega) (.inr ⟨g, off + m, rfl, fun k hk => by
          have h0 := HC.out (m + k) (by have := HL.out; omega)
          have h1 : w1.cell? ⟨g, off + m + k, none⟩ = w.cell? ⟨g, off + m + k, none⟩ := HB1.out.cell (p := ⟨g, off + m + k, none⟩) (by have := block_lt_of_cell h0; exact this)
          rw [h1, Nat.add_assoc, h0]
          simp [List.getD_eq_getElem?_getD, List.getElem?_drop]⟩) (fun _ => HKY.out.below HB1.out) (HPP.out.sublist (List.drop_sublist _ _)) (fun x hx => HLT.out x (List.mem_of_mem_drop hx))
        rw [hld] at e2
        refine e2.mono ?_
        rintro e w2 ⟨g2, c2, S2, he, hg2, hc2, hl2, hs2, hp2, hw2, hb2⟩
        rw [hld] at he hc2 hl2 hs2
        subst he
        have HS2 : Hid (∀ k, k < l - m → w2.cell? ⟨g2, k, none⟩ = some (.int .i64 (S2.getD k 0 : Nat))) := hs2
        have HP2 : Hid (S2.Perm (X.drop m)) := hp2
        have HW2 : Hid (S2.Pairwise (prec (lessB A Bo))) := hw2
        have HB2 : Hid (Below w1.heap.size w1 w2) := hb2
        clear e2 hs2 hp2 hw2 hb2
        have hsz1 := HB1.out.size
        have hsz2 := HB2.out.size
        have BW2 : Hid (Below w.heap.size w w2) := HB1.out.trans ⟨HB2.out.os, HB2.out.tape, HB2.out.output, HB2.out.size, fun k hk => HB2.out.block k (by omega)⟩
        go_wp2_with (first | (at_make; refine wpList_make_own _ rfl _ _ 27 rfl w2.heap.size 3 i3 (.int .i64 0) 1 Try.underlying27 HI3.out.1 HI3.out.2.1 HI3.out.2.2.1 _ _ _ l rfl rfl rfl ?mb ?ml ?mbase ?_))
        case mb => rw [HI3.out.2.2.2]; omega
        case ml => unfold maxLen; omega
        case mbase => exact Nat.le_refl _
        intro w3 hown3 hg3
        obtain ⟨o, ho⟩ : ∃ o, o = w2.heap.size := ⟨_, rfl⟩
        rw [← ho] at hown3 ⊢
        have HO3 : Hid (w3.ownsRow o 3 1 (.slice (some ⟨o, 0, none⟩) 0 l) 0 (idxV [])) := hown3
        have HG3 : Hid (Below o w2 w3) := by subst ho; exact (Below.refl _ _).grown hg3 (Nat.le_refl _) (fun j hj => by cases hj)
        have HOE : Hid (o = w2.heap.size) := ho
        have hg1o : g1 < o := by
          have := HS1.out 0 (by omega)
          have := block_lt_of_cell this
          have hh : g1 < w1.heap.size := this
          omega
        have hg2o : g2 < o := by
          have := HS2.out 0 (by omega)
          have hh : g2 < w2.heap.size := block_lt_of_cell this
          omega
        have hbo : w.heap.size ≤ o := by omega
        clear hown3 hg3 ho
        have CS1 : Hid (∀ wx, Below o w2 wx → ∀ k, k < m → wx.cell? ⟨g1, k, none⟩ = some (.int .i64 (S1.getD k 0 : Nat))) := fun wx hx k hk => by
          have h0 := HS1.out k hk
          rw [hx.cell (p := ⟨g1, k, none⟩) hg1o, HB2.out.cell (p := ⟨g1, k, none⟩) (block_lt_of_cell h0)]
          exact h0
        have CS2 : Hid (∀ wx, Below o w2 wx → ∀ k, k < l - m → wx.cell? ⟨g2, k, none⟩ = some (.int .i64 (S2.getD k 0 : Nat))) := fun wx hx k hk => by
          rw [hx.cell (p := ⟨g2, k, none⟩) hg2o]
          exact HS2.out k hk
        have CK : Hid (∀ wx, Below o w2 wx → (∀ k, k < n → wx.cell? ⟨ga, k, none⟩ = some (.string (A k))) ∧ StrsO wx b n Bo ∧ (Bo ≠ none → nb = n)) := fun wx hx => by
          have hx' : Below w.heap.size w wx := BW2.out.trans ⟨hx.os, hx.tape, hx.output, hx.size, fun k hk => hx.block k (by omega)⟩
          obtain ⟨ga', ca', b', nb', cb', x1, x2, x3, x4, x5⟩ := HKY.out.below hx'
          cases x1; cases x2
          exact ⟨x3, x4, x5⟩
        have LR : Hid (∀ x ∈ S1, ∀ y ∈ S2, x < y) := fun x hx y hy => by
          have hx' := HP1.out.mem_iff.1 hx
          have hy' := HP2.out.mem_iff.1 hy
          have := HPP.out
          rw [← List.take_append_drop m X, List.pairwise_append] at this
          exact this.2.2 x hx' y hy'
        have N1 : Hid (∀ x ∈ S1, x < n) := fun x hx => HLT.out x (List.mem_of_mem_take (HP1.out.mem_iff.1 hx))
        have N2 : Hid (∀ x ∈ S2, x < n) := fun x hx => HLT.out x (List.mem_of_mem_drop (HP2.out.mem_iff.1 hx))
        clear HC HLT IH HS1 HS2 HPP
        go_wp2_with fail
        go_loopg [11, 12, 13] l (fun k s11 s12 s13 wr => ∃ (i j : Nat) (Y : List Nat), k = l - (i + j) ∧ i ≤ m ∧ j ≤ l - m ∧ (i < m ∨ j < l - m) ∧ s12 = .int .i64 (i : Nat) ∧ s13 = .int .i64 (j : Nat) ∧ s11 = .slice (some ⟨o, 0, none⟩) (i + j) l ∧ wr.ownsRow o 3 1 (.slice (some ⟨o, 0, none⟩) (i + j) l) (i + j) (idxV Y) ∧ Y.length = i + j ∧ MInv (lessB A Bo) S1 S2 Y i j ∧ Below o w2 wr)
        case atStart => exact ⟨0, 0, [], by omega, by omega, by omega, by omega, rfl, rfl, rfl, HO3.out, rfl, MInv.start _ _ _, HG3.out⟩
        case round =>
          obtain ⟨i, j, Y, hk, him, hjm, hone, rfl, rfl, rfl, hown, hyl, hinv, hbl⟩ := hrel
          have HK : Hid _ := hk
          have HOW : Hid (wr.ownsRow o 3 1 (.slice (some ⟨o, 0, none⟩) (i + j) l) (i + j) (idxV Y)) := hown
          have HIV : Hid (MInv (lessB A Bo) S1 S2 Y i j) := hinv
          have HBL : Hid (Below o w2 wr) := hbl
          have HYL : Hid (Y.length = i + j) := hyl
          clear hk hown hinv hbl hyl HO3 HG3
          by_cases hij : i < m ∧ j < l - m
          · obtain ⟨hi, hj⟩ := hij
            have hiI : (i : Int) < (m : Int) := by omega
            have hjI : (j : Int) < ((l - m : Nat) : Int) := by omega
            have d1 : decide ((i : Int) < (m : Int)) = true := by rw [decide_eq_true_iff]; omega
            have c1' := CS1.out wr HBL.out i hi
            have c2' := CS2.out wr HBL.out j hj
            have hx1 : S1.getD i 0 < n := by rw [getD_eq (by omega)]; exact N1.out _ (List.getElem_mem _)
            have hx2 : S2.getD j 0 < n := by rw [getD_eq (by omega)]; exact N2.out _ (List.getElem_mem _)
            obtain ⟨x1, hx1e⟩ : ∃ x, x = S1.getD i 0 := ⟨_, rfl⟩
            obtain ⟨x2, hx2e⟩ : ∃ x, x = S2.getD j 0 := ⟨_, rfl⟩
            rw [← hx1e] at c1' hx1
            rw [← hx2e] at c2' hx2
            have HX1 : Hid (x1 = S1.getD i 0) := hx1e
            have HX2 : Hid (x2 = S2.getD j 0) := hx2e
            clear hx1e hx2e
            go_wp2_with fail
            go_quiet (exact zzLess_any wr ga n ca nb cb b A Bo (CK.out wr HBL.out).1 (CK.out wr HBL.out).2.1 (CK.out wr HBL.out).2.2 x2 x1 hx2 hx1 hn _)
            cases hlt : lessB A Bo x2 x1 with
            | true =>
              have HLT2 : Hid (lessB A Bo x2 x1 = true) := hlt
              go_wp2_with (first | (at_builtin; refine wpList_append_fits _ rfl _ _ 27 rfl o 3 i3 1 Try.underlying27 HI3.out.1 HI3.out.2.2.1 o (i + j) l (idxV Y) rfl ?aoR ⟨wr.heap.size, 0, none⟩ 1 1 [.int .i64 (x2 : Nat)] rfl rfl ?acR ?a1R ?abR ?_))
              case aoR => exact (ownsRow_drewN HOW.out nq).alloc _
              case acR => exact cell_one_new (wr.drewN nq) _ _
              case a1R => exact ints_oneCell .i64 [(x2 : Int)]
              case abR => omega
              intro W4 hown4 hgrow4
              have hb4 : Below o w2 W4 := ((below_drewN HBL.out nq).alloc (by have := HBL.out.size; have := HOE.out; show o ≤ wr.heap.size; omega) _).grown hgrow4 (by have := HBL.out.size; have := HOE.out; show o ≤ ((wr.drewN nq).alloc _).heap.size; simp; omega) (fun k h => by cases h; exact Nat.le_refl _)
              have HO4 : Hid (W4.ownsRow o 3 1 (.slice (some ⟨o, 0, none⟩) (i + j + 1) l) (i + j + 1) (idxV Y ++ [.int .i64 (x2 : Nat)])) := hown4
              have HB4 : Hid (Below o w2 W4) := hb4
              clear hown4 hgrow4 hb4
              go_wp2_with fail
              go_roundg (l - (i + j + 1))
              case measure => have := HK.out; omega
              case rel =>
                refine ⟨i, j + 1, Y ++ [x2], by omega, by omega, by omega, by omega, by go_num, by go_num, ?_, ?_, by have := HYL.out; simp; omega, ?_, HB4.out⟩
                · rw [show i + (j + 1) = i + j + 1 from by omega]
                · rw [show i + (j + 1) = i + j + 1 from by omega, idxV_snoc]; exact HO4.out
                · have hh := HLT2.out
                  rw [HX1.out, HX2.out, getD_eq (show i < S1.length by omega), getD_eq (show j < S2.length by omega)] at hh
                  rw [HX2.out, getD_eq (show j < S2.length by omega)]
                  exact HIV.out.right (lessB_sw A Bo) HW1.out HW2.out (by omega) (by omega) hh
            | false =>
              have HLT2 : Hid (lessB A Bo x2 x1 = false) := hlt
              go_wp2_with (first | (at_builtin; refine wpList_append_fits _ rfl _ _ 27 rfl o 3 i3 1 Try.underlying27 HI3.out.1 HI3.out.2.2.1 o (i + j) l (idxV Y) rfl ?aoL ⟨wr.heap.size, 0, none⟩ 1 1 [.int .i64 (x1 : Nat)] rfl rfl ?acL ?a1L ?abL ?_))
              case aoL => exact (ownsRow_drewN HOW.out nq).alloc _
              case acL => exact cell_one_new (wr.drewN nq) _ _
              case a1L => exact ints_oneCell .i64 [(x1 : Int)]
              case abL => omega
              intro W4 hown4 hgrow4
              have hb4 : Below o w2 W4 := ((below_drewN HBL.out nq).alloc (by have := HBL.out.size; have := HOE.out; show o ≤ wr.heap.size; omega) _).grown hgrow4 (by have := HBL.out.size; have := HOE.out; show o ≤ ((wr.drewN nq).alloc _).heap.size; simp; omega) (fun k h => by cases h; exact Nat.le_refl _)
              have HO4 : Hid (W4.ownsRow o 3 1 (.slice (some ⟨o, 0, none⟩) (i + j + 1) l) (i + j + 1) (idxV Y ++ [.int .i64 (x1 : Nat)])) := hown4
              have HB4 : Hid (Below o w2 W4) := hb4
              clear hown4 hgrow4 hb4
              go_wp2_with fail
              go_roundg (l - (i + j + 1))
              case measure => have := HK.out; omega
              case rel =>
                refine ⟨i + 1, j, Y ++ [x1], by omega, by omega, by omega, by omega, by go_num, by go_num, ?_, ?_, by have := HYL.out; simp; omega, ?_, HB4.out⟩
                · rw [show i + 1 + (j) = i + j + 1 from by omega]
                · rw [show i + 1 + (j) = i + j + 1 from by omega, idxV_snoc]; exact HO4.out
                · have hh := HLT2.out
                  rw [HX1.out, HX2.out, getD_eq (show i < S1.length by omega), getD_eq (show j < S2.length by omega)] at hh
                  rw [HX1.out, getD_eq (show i < S1.length by omega)]
                  exact HIV.out.left (lessB_sw A Bo) HW1.out HW2.out LR.out (by omega) (by omega) hh
          · have HIJ : Hid (¬ (i < m ∧ j < l - m)) := hij
            clear hij
            have HA1 : Hid (∀ k u, (idxV (S1.drop i))[k]? = some u → wr.cell? ⟨g1, i + k, none⟩ = some u) := fun k u hu => by
              obtain ⟨hk, rfl⟩ := idxV_get hu
              rw [List.length_drop] at hk
              have h0 := CS1.out wr HBL.out (i + k) (by omega)
              have e : (S1.drop i).getD k 0 = S1.getD (i + k) 0 := by simp [List.getD_eq_getElem?_getD, List.getElem?_drop]
              rw [e]
              exact h0
            have HA2 : Hid (∀ wx, Below o w2 wx → ∀ k u, (idxV (S2.drop j))[k]? = some u → wx.cell? ⟨g2, j + k, none⟩ = some u) := fun wx hx k u hu => by
              obtain ⟨hk, rfl⟩ := idxV_get hu
              rw [List.length_drop] at hk
              have h0 := CS2.out wx hx (j + k) (by omega)
              have e : (S2.drop j).getD k 0 = S2.getD (j + k) 0 := by simp [List.getD_eq_getElem?_getD, List.getElem?_drop]
              rw [e]
              exact h0
            have FIN : Hid (∀ (wx : World) (e : Ending), e = .returned (.slice (some ⟨o, 0, none⟩) (i + j + (m - i) + (l - m - j)) l) → wx.ownsRow o 3 1 (.slice (some ⟨o, 0, none⟩) (i + j + (m - i) + (l - m - j)) l) (i + j + (m - i) + (l - m - j)) (idxV Y ++ idxV (S1.drop i) ++ idxV (S2.drop j)) → Below o w2 wx → SmPost w (lessB A Bo) X e wx) := by
              rintro wx e rfl hown hbx
              have hll : i + j + (m - i) + (l - m - j) = l := by omega
              rw [hll] at hown ⊢
              have hd := HIV.out.done HW1.out HW2.out (by rw [hl1, hl2]; exact HIJ.out)
              rw [← idxV_append, ← idxV_append] at hown
              have hpx : (Y ++ S1.drop i ++ S2.drop j).Perm X := by
                refine hd.2.trans ?_
                have := HP1.out.append HP2.out
                rwa [List.take_append_drop] at this
              have hsl : (Y ++ S1.drop i ++ S2.drop j).length = X.length := hpx.length_eq
              refine ⟨o, l, Y ++ S1.drop i ++ S2.drop j, by rw [HL.out], hbo, by have := HL.out; omega, hsl, fun k hk => ?_, hpx, hd.1, BW2.out.trans ⟨hbx.os, hbx.tape, hbx.output, hbx.size, fun k hk => hbx.block k (by omega)⟩⟩
              refine (owns_cells hown rfl).2.2 k _ ?_
              rw [idxV, List.getElem?_map, List.getElem?_eq_getElem (by rw [hsl]; exact hk), Option.map_some, getD_eq (by rw [hsl]; exact hk)]
            rcases hone with h1 | h1
            · -- the left one has some left
              have hiI : (i : Int) < (m : Int) := by omega
              have hjI : ¬ ((j : Int) < ((l - m : Nat) : Int)) := by have := HIJ.out; omega
              have hje : j = l - m := by have := HIJ.out; omega
              have HJE : Hid (j = l - m) := hje
              have hci : ¬ c1 = i := by omega
              clear LR N1 N2 hje
              by_cases hcj : c2 = j
              · have HJ0 := HJE.out
                clear HJ0
                go_wp2_with (first | (at_builtin; refine wpList_append_fits _ rfl _ _ 27 rfl o 3 i3 1 Try.underlying27 HI3.out.1 HI3.out.2.2.1 o (i + j) l (idxV Y) rfl ?boQ1a ⟨g1, i, none⟩ (m - i) (c1 - i) (idxV (S1.drop i)) rfl ?blQ1a ?bcQ1a ?b1Q1a ?bbQ1a ?_))
                case boQ1a => exact HOW.out
                case blQ1a => rw [idxV_length, List.length_drop]; omega
                case bcQ1a => first | exact HA1.out | exact add_form (HA1.out)
                case b1Q1a => exact idxV_one _
                case bbQ1a => omega
                intro W5 hown5 hgrow5
                have HO5 : Hid (W5.ownsRow o 3 1 (.slice (some ⟨o, 0, none⟩) (i + j + (m - i)) l) (i + j + (m - i)) (idxV Y ++ idxV (S1.drop i))) := hown5
                have HB5 : Hid (Below o w2 W5) := HBL.out.grown hgrow5 (by have := HBL.out.size; have := HOE.out; omega) (fun k h => by cases h; exact Nat.le_refl _)
                clear hown5 hgrow5
                go_wp2_with (first | (at_builtin; refine wpList_append_fits _ rfl _ _ 27 rfl o 3 i3 1 Try.underlying27 HI3.out.1 HI3.out.2.2.1 o (i + j + (m - i)) l (idxV Y ++ idxV (S1.drop i)) rfl ?boQ1b _ (l - m - j) _ (idxV (S2.drop j)) rfl ?blQ1b ?bcQ1b ?b1Q1b ?bbQ1b ?_))
                case boQ1b => exact HO5.out
                case blQ1b => rw [idxV_length, List.length_drop]; omega
                case bcQ1b => exact fun k u hu => absurd (idxV_get hu).1 (by rw [List.length_drop]; have := HJE.out; omega)
                case b1Q1b => exact idxV_one _
                case bbQ1b => omega
                intro W6 hown5 hgrow5
                have HO6 : Hid (W6.ownsRow o 3 1 (.slice (some ⟨o, 0, none⟩) (i + j + (m - i) + (l - m - j)) l) (i + j + (m - i) + (l - m - j)) (idxV Y ++ idxV (S1.drop i) ++ idxV (S2.drop j))) := by first | exact hown5 | (rw [← List.append_assoc] at hown5; exact hown5)
                have HB6 : Hid (Below o w2 W6) := HB5.out.grown hgrow5 (by have := HB5.out.size; have := HOE.out; omega) (fun k h => by cases h; exact Nat.le_refl _)
                clear hown5 hgrow5
                go_wp2_with fail
                go_ret
                exact FIN.out W6 _ rfl HO6.out HB6.out
              · have HJ0 := HJE.out
                clear HJ0
                go_wp2_with (first | (at_builtin; refine wpList_append_fits _ rfl _ _ 27 rfl o 3 i3 1 Try.underlying27 HI3.out.1 HI3.out.2.2.1 o (i + j) l (idxV Y) rfl ?boQ2a ⟨g1, i, none⟩ (m - i) (c1 - i) (idxV (S1.drop i)) rfl ?blQ2a ?bcQ2a ?b1Q2a ?bbQ2a ?_))
                case boQ2a => exact HOW.out
                case blQ2a => rw [idxV_length, List.length_drop]; omega
                case bcQ2a => first | exact HA1.out | exact add_form (HA1.out)
                case b1Q2a => exact idxV_one _
                case bbQ2a => omega
                intro W5 hown5 hgrow5
                have HO5 : Hid (W5.ownsRow o 3 1 (.slice (some ⟨o, 0, none⟩) (i + j + (m - i)) l) (i + j + (m - i)) (idxV Y ++ idxV (S1.drop i))) := hown5
                have HB5 : Hid (Below o w2 W5) := HBL.out.grown hgrow5 (by have := HBL.out.size; have := HOE.out; omega) (fun k h => by cases h; exact Nat.le_refl _)
                clear hown5 hgrow5
                go_wp2_with (first | (at_builtin; refine wpList_append_fits _ rfl _ _ 27 rfl o 3 i3 1 Try.underlying27 HI3.out.1 HI3.out.2.2.1 o (i + j + (m - i)) l (idxV Y ++ idxV (S1.drop i)) rfl ?boQ2b _ (l - m - j) _ (idxV (S2.drop j)) rfl ?blQ2b ?bcQ2b ?b1Q2b ?bbQ2b ?_))
                case boQ2b => exact HO5.out
                case blQ2b => rw [idxV_length, List.length_drop]; omega
                case bcQ2b => exact fun k u hu => absurd (idxV_get hu).1 (by rw [List.length_drop]; have := HJE.out; omega)
                case b1Q2b => exact idxV_one _
                case bbQ2b => omega
                intro W6 hown5 hgrow5
                have HO6 : Hid (W6.ownsRow o 3 1 (.slice (some ⟨o, 0, none⟩) (i + j + (m - i) + (l - m - j)) l) (i + j + (m - i) + (l - m - j)) (idxV Y ++ idxV (S1.drop i) ++ idxV (S2.drop j))) := by first | exact hown5 | (rw [← List.append_assoc] at hown5; exact hown5)
                have HB6 : Hid (Below o w2 W6) := HB5.out.grown hgrow5 (by have := HB5.out.size; have := HOE.out; omega) (fun k h => by cases h; exact Nat.le_refl _)
                clear hown5 hgrow5
                go_wp2_with fail
                go_ret
                exact FIN.out W6 _ rfl HO6.out HB6.out
            · -- the right one has some left
              have hiI : ¬ ((i : Int) < (m : Int)) := by have := HIJ.out; omega
              have hie : i = m := by have := HIJ.out; omega
              have HIE : Hid (i = m) := hie
              have hcj : ¬ c2 = j := by omega
              clear LR N1 N2 hie
              by_cases hci : c1 = i
              · have HJ0 := HIE.out
                clear HJ0
                go_wp2_with (first | (at_builtin; refine wpList_append_fits _ rfl _ _ 27 rfl o 3 i3 1 Try.underlying27 HI3.out.1 HI3.out.2.2.1 o (i + j) l (idxV Y) rfl ?boP1a _ (m - i) _ (idxV (S1.drop i)) rfl ?blP1a ?bcP1a ?b1P1a ?bbP1a ?_))
                case boP1a => exact HOW.out
                case blP1a => rw [idxV_length, List.length_drop]; omega
                case bcP1a => exact fun k u hu => absurd (idxV_get hu).1 (by rw [List.length_drop]; have := HIE.out; omega)
                case b1P1a => exact idxV_one _
                case bbP1a => omega
                intro W5 hown5 hgrow5
                have HO5 : Hid (W5.ownsRow o 3 1 (.slice (some ⟨o, 0, none⟩) (i + j + (m - i)) l) (i + j + (m - i)) (idxV Y ++ idxV (S1.drop i))) := hown5
                have HB5 : Hid (Below o w2 W5) := HBL.out.grown hgrow5 (by have := HBL.out.size; have := HOE.out; omega) (fun k h => by cases h; exact Nat.le_refl _)
                clear hown5 hgrow5
                go_wp2_with (first | (at_builtin; refine wpList_append_fits _ rfl _ _ 27 rfl o 3 i3 1 Try.underlying27 HI3.out.1 HI3.out.2.2.1 o (i + j + (m - i)) l (idxV Y ++ idxV (S1.drop i)) rfl ?boP1b ⟨g2, j, none⟩ (l - m - j) (c2 - j) (idxV (S2.drop j)) rfl ?blP1b ?bcP1b ?b1P1b ?bbP1b ?_))
                case boP1b => exact HO5.out
                case blP1b => rw [idxV_length, List.length_drop]; omega
                case bcP1b => first | exact HA2.out W5 HB5.out | exact add_form (HA2.out W5 HB5.out)
                case b1P1b => exact idxV_one _
                case bbP1b => omega
                intro W6 hown5 hgrow5
                have HO6 : Hid (W6.ownsRow o 3 1 (.slice (some ⟨o, 0, none⟩) (i + j + (m - i) + (l - m - j)) l) (i + j + (m - i) + (l - m - j)) (idxV Y ++ idxV (S1.drop i) ++ idxV (S2.drop j))) := by first | exact hown5 | (rw [← List.append_assoc] at hown5; exact hown5)
                have HB6 : Hid (Below o w2 W6) := HB5.out.grown hgrow5 (by have := HB5.out.size; have := HOE.out; omega) (fun k h => by cases h; exact Nat.le_refl _)
                clear hown5 hgrow5
                go_wp2_with fail
                go_ret
                exact FIN.out W6 _ rfl HO6.out HB6.out
              · have HJ0 := HIE.out
                clear HJ0
                go_wp2_with (first | (at_builtin; refine wpList_append_fits _ rfl _ _ 27 rfl o 3 i3 1 Try.underlying27 HI3.out.1 HI3.out.2.2.1 o (i + j) l (idxV Y) rfl ?boP2a _ (m - i) _ (idxV (S1.drop i)) rfl ?blP2a ?bcP2a ?b1P2a ?bbP2a ?_))
                case boP2a => exact HOW.out
                case blP2a => rw [idxV_length, List.length_drop]; omega
                case bcP2a => exact fun k u hu => absurd (idxV_get hu).1 (by rw [List.length_drop]; have := HIE.out; omega)
                case b1P2a => exact idxV_one _
                case bbP2a => omega
                intro W5 hown5 hgrow5
                have HO5 : Hid (W5.ownsRow o 3 1 (.slice (some ⟨o, 0, none⟩) (i + j + (m - i)) l) (i + j + (m - i)) (idxV Y ++ idxV (S1.drop i))) := hown5
                have HB5 : Hid (Below o w2 W5) := HBL.out.grown hgrow5 (by have := HBL.out.size; have := HOE.out; omega) (fun k h => by cases h; exact Nat.le_refl _)
                clear hown5 hgrow5
                go_wp2_with (first | (at_builtin; refine wpList_append_fits _ rfl _ _ 27 rfl o 3 i3 1 Try.underlying27 HI3.out.1 HI3.out.2.2.1 o (i + j + (m - i)) l (idxV Y ++ idxV (S1.drop i)) rfl ?boP2b ⟨g2, j, none⟩ (l - m - j) (c2 - j) (idxV (S2.drop j)) rfl ?blP2b ?bcP2b ?b1P2b ?bbP2b ?_))
                case boP2b => exact HO5.out
                case blP2b => rw [idxV_length, List.length_drop]; omega
                case bcP2b => first | exact HA2.out W5 HB5.out | exact add_form (HA2.out W5 HB5.out)
                case b1P2b => exact idxV_one _
                case bbP2b => omega
                intro W6 hown5 hgrow5
                have HO6 : Hid (W6.ownsRow o 3 1 (.slice (some ⟨o, 0, none⟩) (i + j + (m - i) + (l - m - j)) l) (i + j + (m - i) + (l - m - j)) (idxV Y ++ idxV (S1.drop i) ++ idxV (S2.drop j))) := by first | exact hown5 | (rw [← List.append_assoc] at hown5; exact hown5)
                have HB6 : Hid (Below o w2 W6) := HB5.out.grown hgrow5 (by have := HB5.out.size; have := HOE.out; omega) (fun k h => by cases h; exact Nat.le_refl _)
                clear hown5 hgrow5
                go_wp2_with fail
                go_ret
                exact FIN.out W6 _ rfl HO6.out HB6.out
end Go.Proofs.Qxb6604637a
