/- Merge and Effective. -/
import Derived.Test.Qxb6604637aMu
namespace Go.Proofs.Qxb6604637a
open Go.RowKit Go.Maps Go.MapKept Go.WideMaps Go.ChangeMaps
set_option linter.unusedVariables false

abbrev Doc := Lit → Option (Lit → Option Value)
/-- a document, nil or not -/
def DocO (w : World) (o : Option Nat) (n : Nat) (F : Doc) : Prop := (o = none ∧ ∀ k, F k = none) ∨ ∃ b, o = some b ∧ NMap w b n F
/-- it is nil, or it holds a key -/
def Full (o : Option Nat) (F : Doc) : Prop := o ≠ none → ∃ k, F k ≠ none
theorem DocO.below {w w' : World} {o : Option Nat} {n : Nat} {F : Doc} (h : DocO w o n F) (hB : Below w.heap.size w w') : DocO w' o n F := by
  rcases h with h | ⟨b, rfl, h⟩
  · exact .inl h
  · exact .inr ⟨b, rfl, h.below hB⟩
theorem DocO.mono {w : World} {o : Option Nat} {n m : Nat} {F : Doc} (h : DocO w o n F) (hm : n ≤ m) : DocO w o m F := by
  rcases h with h | ⟨b, rfl, h⟩
  · exact .inl h
  · exact .inr ⟨b, rfl, h.mono hm⟩
theorem DocO.congr {w : World} {o : Option Nat} {n : Nat} {F G : Doc} (h : DocO w o n F) (e : ∀ k, F k = G k) : DocO w o n G := by rwa [show G = F from funext fun k => (e k).symm]
theorem overN_none_left {G F : Doc} (h : ∀ k, G k = none) (k : Lit) : F k = overN G F k := by simp [overN, h k]
theorem overN_none_right {G F : Doc} (h : ∀ k, F k = none) (k : Lit) : G k = overN G F k := by cases e : G k <;> simp [overN, h k, e]
theorem overN_some {G F : Doc} {k : Lit} (h : F k ≠ none) : overN G F k ≠ none := by
  cases e : G k <;> cases e' : F k <;> simp_all [overN]
theorem len_nil44 (w : World) (ty : TypeId) : (Builtin.len_ #[44] ty #[.map none]).run Try.prog w = .ok (.int .i64 0) w := Maps.len_nil Try.underlying44 ty

theorem wpList_mlen_nil (w : World) {ops : Array Oper} {rest : List Oper} {o : Oper} {a : Act} {Q : Exit → Act → World → Prop} (hg : o.guard = none) (m : Operand) (hop : o.op = Op.call { callee := Callee.builtin Builtin.len, args := #[m], argTypes := #[44] })
    (hm : a.eval m = .map none) (hK : wpList Try.prog ops Q rest (a.put o.dst (.int .i64 0)) w) : wpList Try.prog ops Q (o :: rest) a w := by
  refine wpList_plain hg fun K' hK' => ?_
  unfold Oper.wp
  simp [execOp, hop, resolve, invoke, builtin, hm, len_nil44 w o.type, Result.andThen]
  exact hK' _ _ hK

theorem NMap.empty_or {w : World} {b n : Nat} {F : Doc} (h : NMap w b n F) : ∃ (g : Lit → Option Value) (c : Nat), MapIs w b n g ∧ Card g c ∧ (c = 0 → ∀ k, F k = none) ∧ (c ≠ 0 → ∃ k, F k ≠ none) := by
  obtain ⟨c, h1, h2⟩ := h
  obtain ⟨m, _, hm⟩ := h1.card
  refine ⟨_, m, h1, hm, fun e k => ?_, fun e => ?_⟩
  · subst e
    have := hm.zero k
    exact (h2 k).none_iff.1 (by simpa using this)
  · obtain ⟨k, v, hv⟩ := hm.pos e
    refine ⟨k, fun e => ?_⟩
    have := (h2 k).none_iff.2 e
    rw [this] at hv
    simp at hv

set_option maxHeartbeats 1000000 in
set_option maxRecDepth 100000 in
theorem merge24_any (w : World) (ol oh : Option Nat) (n1 n2 : Nat) (F G : Doc) (hl : DocO w ol n1 F) (hf : Full ol F) (hh : DocO w oh n2 G) (hn : n1 + n2 < maxLen) :
    Calls Try.prog 24 #[.map ol, .map none, .map oh] w fun e w' => ∃ o' x, e = .returned (.tuple #[.map o', .map x]) ∧ DocO w' o' (n1 + n2) (overN G F) ∧ Full o' (overN G F) ∧ Below w.heap.size w w' := by
  have hln := len_nil44
  rcases hh with ⟨rfl, hG⟩ | ⟨bh, rfl, hH⟩
  · have H1 : Hid (DocO w ol n1 F) := hl
    have H2 : Hid (Full ol F) := hf
    have H3 : Hid (∀ k, G k = none) := hG
    clear hl hf hG
    go_enter Try.func24, Try.ntmps24
    go_wp2_with fail
    go_ret2
    have e : overN G F = F := funext fun k => (overN_none_left H3.out k).symm
    rw [e]
    exact ⟨ol, none, rfl, H1.out.mono (by omega), H2.out, Below.refl _ _⟩
  · obtain ⟨g, c, hm, hc, hc0, hc1⟩ := hH.empty_or
    have HM : Hid (MapIs w bh n2 g) := hm
    have HC : Hid (Card g c) := hc
    by_cases z : c = 0
    · have H1 : Hid (DocO w ol n1 F) := hl
      have H2 : Hid (Full ol F) := hf
      have H3 : Hid (∀ k, G k = none) := hc0 z
      subst z
      clear hl hf hc0 hc1 hm hc hH
      go_enter Try.func24, Try.ntmps24
      go_wp2_with (first | (at_len; refine wpList_mlen _ rfl _ 44 20 rfl Try.underlying44 bh n2 g rfl HM.out 0 HC.out ?_))
      go_ret2
      have e : overN G F = F := funext fun k => (overN_none_left H3.out k).symm
      rw [e]
      exact ⟨ol, none, rfl, H1.out.mono (by omega), H2.out, Below.refl _ _⟩
    · rcases hl with ⟨rfl, hF⟩ | ⟨bl, rfl, hL⟩
      · have H1 : Hid (NMap w bh n2 G) := hH
        have H2 : Hid (∃ k, G k ≠ none) := hc1 z
        have H3 : Hid (∀ k, F k = none) := hF
        have z' : ((c : Int) == 0) = false := by rw [beq_eq_false_iff_ne]; omega
        clear hf hc0 hc1 hm hc hH hF z
        go_enter Try.func24, Try.ntmps24
        go_wp2_with (first | (at_len; first | refine wpList_mlen _ rfl _ 44 20 rfl Try.underlying44 bh n2 g rfl HM.out c HC.out ?_ | refine wpList_mlen_nil _ rfl _ rfl rfl ?_))
        go_ret2
        have e : overN G F = G := funext fun k => (overN_none_right H3.out k).symm
        rw [e]
        exact ⟨some bh, none, rfl, .inr ⟨bh, rfl, H1.out.mono (by omega)⟩, fun _ => H2.out, Below.refl _ _⟩
      · refine (mergeOuter w bl bh n1 n2 F G hL hH hn).mono ?_
        rintro e w' ⟨b', x, rfl, h1, h2⟩
        obtain ⟨k, hk⟩ := hf (by simp)
        exact ⟨some b', x, rfl, .inr ⟨b', rfl, h1⟩, fun _ => ⟨k, overN_some hk⟩, h2⟩

set_option maxHeartbeats 1000000 in
set_option maxRecDepth 100000 in
theorem merge_any (w : World) (ol oh : Option Nat) (n1 n2 : Nat) (F G : Doc) (hl : DocO w ol n1 F) (hf : Full ol F) (hh : DocO w oh n2 G) (hn : n1 + n2 < maxLen) :
    Calls Try.prog 22 #[.map ol, .map oh] w fun e w' => ∃ o', e = .returned (.map o') ∧ DocO w' o' (n1 + n2) (overN G F) ∧ Full o' (overN G F) ∧ Below w.heap.size w w' := by
  have H1 : Hid (DocO w ol n1 F) := hl
  have H2 : Hid (Full ol F) := hf
  have H3 : Hid (DocO w oh n2 G) := hh
  clear hl hf hh
  go_enter Try.func22, Try.ntmps22
  go_wp2_with fail
  refine (merge24_any w ol oh n1 n2 F G H1.out H2.out H3.out hn).mono ?_
  rintro e w1 ⟨o', x, rfl, h1, h2, h3⟩
  have P1 : Hid (DocO w1 o' (n1 + n2) (overN G F) ∧ Full o' (overN G F) ∧ Below w.heap.size w w1) := ⟨h1, h2, h3⟩
  clear h1 h2 h3
  go_wp2_with fail
  go_ret
  exact ⟨o', rfl, P1.out⟩

/-- the first j documents laid over one another -/
def foldD (Fd : Nat → Doc) : Nat → Doc
  | 0 => fun _ => none
  | j + 1 => overN (Fd j) (foldD Fd j)
/-- the sum of the first j numbers -/
def psum (L : Nat → Nat) : Nat → Nat
  | 0 => 0
  | j + 1 => psum L j + L j
theorem psum_mono (L : Nat → Nat) : ∀ {i j : Nat}, i ≤ j → psum L i ≤ psum L j
  | i, 0, h => by obtain rfl : i = 0 := by omega
                  exact Nat.le_refl _
  | i, j + 1, h => by
    by_cases e : i = j + 1
    · subst e; exact Nat.le_refl _
    · exact Nat.le_trans (psum_mono L (show i ≤ j by omega)) (Nat.le_add_right _ _)

set_option maxHeartbeats 1000000 in
set_option maxRecDepth 100000 in
theorem effective_any (w : World) (d N c : Nat) (od : Nat → Option Nat) (L : Nat → Nat) (Fd : Nat → Doc) (hN : N ≤ 1048576) (hd : ∀ i, i < N → w.cell? ⟨d, i, none⟩ = some (.map (od i))) (hD : ∀ i, i < N → DocO w (od i) (L i) (Fd i)) (hs : psum L N < maxLen) :
    Calls Try.prog 20 #[.slice (some ⟨d, 0, none⟩) N c] w fun e w' => ∃ o', e = .returned (.map o') ∧ DocO w' o' (psum L N) (foldD Fd N) ∧ Full o' (foldD Fd N) ∧ Below w.heap.size w w' := by
  have HD : Hid (∀ i, i < N → w.cell? ⟨d, i, none⟩ = some (.map (od i))) := hd
  have HDD : Hid (∀ i, i < N → DocO w (od i) (L i) (Fd i)) := hD
  clear hd hD
  go_enter Try.func20, Try.ntmps20
  go_wp2_with fail
  go_loopg [3, 8] N (fun k s3 s8 wr => ∃ (j : Nat) (o : Option Nat), k = N - j ∧ j ≤ N ∧ s8 = .int .i64 (j : Nat) ∧ s3 = .map o ∧ DocO wr o (psum L j) (foldD Fd j) ∧ Full o (foldD Fd j) ∧ Below w.heap.size w wr)
  case atStart => exact ⟨0, none, rfl, by omega, rfl, rfl, .inl ⟨rfl, fun _ => rfl⟩, fun h => absurd rfl h, Below.refl _ _⟩
  case round =>
    obtain ⟨j, o, hk, hj, rfl, rfl, h1, h2, h3⟩ := hrel
    have HK : Hid _ := hk
    have H1 : Hid (DocO wr o (psum L j) (foldD Fd j)) := h1
    have H2 : Hid (Full o (foldD Fd j)) := h2
    have H3 : Hid (Below w.heap.size w wr) := h3
    clear hk h1 h2 h3
    by_cases hjn : j < N
    · have hjI : (j : Int) < (N : Int) := by omega
      have g := HD.out j hjn
      have g' : wr.cell? ⟨d, j, none⟩ = some (.map (od j)) := by rw [H3.out.cell (p := ⟨d, j, none⟩) (block_lt_of_cell g)]; exact g
      clear g
      go_wp2_with fail
      refine (merge_any wr o (od j) (psum L j) (L j) (foldD Fd j) (Fd j) H1.out H2.out ((HDD.out j hjn).below H3.out) (by have := psum_mono L (show j + 1 ≤ N by omega); simp only [psum] at this; omega)).mono ?_
      rintro e w1 ⟨o', rfl, p1, p2, p3⟩
      have P1 : Hid (DocO w1 o' (psum L (j + 1)) (foldD Fd (j + 1))) := p1
      have P2 : Hid (Full o' (foldD Fd (j + 1))) := p2
      have P3 : Hid (Below w.heap.size w w1) := H3.out.trans ⟨p3.os, p3.tape, p3.output, p3.size, fun k hk => p3.block k (by have := H3.out.size; omega)⟩
      clear p1 p2 p3
      go_wp2_with fail
      go_roundg (N - (j + 1))
      case measure => have := HK.out; omega
      case rel => exact ⟨j + 1, o', by omega, by omega, by go_num, rfl, P1.out, P2.out, P3.out⟩
    · have hjI : ¬ (j : Int) < (N : Int) := by omega
      obtain rfl : j = N := by omega
      go_wp2_with fail
      go_ret
      exact ⟨o, rfl, H1.out, H2.out, H3.out⟩
end Go.Proofs.Qxb6604637a
