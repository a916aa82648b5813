/- insertUniqueB1, walked. -/
import Derived.Test.Qxb6602643aTmPlain
import Derived.WalkSpells
import Derived.Maps.AppendAt
namespace Go.Proofs.Qxb6602643a
open Go.RowKit
set_option linter.unusedVariables false

theorem Try.info30 : (Try.prog.info? 30).map (fun i => (i.zero, i.size, i.bytes)) = some (some (.int .u64 0), 1, 8) := by kernel_rfl
def u64s (l : List Nat) : List Value := l.map fun c => Value.int .u64 (c : Nat)
theorem u64s_get (l : List Nat) (j : Nat) (h : j < l.length) : (u64s l)[j]? = some (.int .u64 (l.getD j 0 : Nat)) := by
  simp [u64s, List.getD, h]
theorem u64s_set (l : List Nat) (j x : Nat) : (u64s l).set j (.int .u64 (x : Nat)) = u64s (l.set j x) := by
  simp [u64s, List.map_set]

theorem ins_at (xs : List Nat) (p i : Nat) (hi : i ≤ xs.length) (h1 : ∀ j, j < i → xs.getD j 0 < p) (h2 : i < xs.length → p < xs.getD i 0) : ins xs p = xs.take i ++ p :: xs.drop i := by
  induction xs generalizing i with
  | nil => have : i = 0 := by simpa using hi
           subst this; rfl
  | cons x xs ih =>
    cases i with
    | zero =>
      have := h2 (by simp)
      simp only [List.getD_cons_zero] at this
      simp only [ins]
      rw [if_neg (by omega), if_neg (by omega)]
      rfl
    | succ i =>
      have := h1 0 (by omega)
      simp only [List.getD_cons_zero] at this
      simp only [ins]
      rw [if_pos this, ih i (by simpa using hi) (fun j hj => by simpa using h1 (j + 1) (by omega)) (fun h => by simpa using h2 (by simpa using h))]
      rfl
theorem ins_in (xs : List Nat) (p i : Nat) (hi : i < xs.length) (h1 : ∀ j, j < i → xs.getD j 0 < p) (h2 : xs.getD i 0 = p) : ins xs p = xs := by
  induction xs generalizing i with
  | nil => simp at hi
  | cons x xs ih =>
    cases i with
    | zero =>
      simp only [List.getD_cons_zero] at h2
      simp only [ins]
      rw [if_neg (by omega), if_pos h2]
    | succ i =>
      have := h1 0 (by omega)
      simp only [List.getD_cons_zero] at this
      simp only [ins]
      rw [if_pos this, ih i (by simpa using hi) (fun j hj => by simpa using h1 (j + 1) (by omega)) (by simpa using h2)]
theorem list_ext_getD (a b : List Nat) (hl : a.length = b.length) (h : ∀ x, x < a.length → a.getD x 0 = b.getD x 0) : a = b := by
  refine List.ext_getElem hl (fun x h1 h2 => ?_)
  have := h x h1
  simpa [List.getD, h1, h2] using this
theorem mid_get (xs : List Nat) (p i x : Nat) (hi : i ≤ xs.length) : (xs.take i ++ p :: xs.drop i).getD x 0 = if x < i then xs.getD x 0 else if x = i then p else xs.getD (x - 1) 0 := by
  have hl : (xs.take i).length = i := by simp; omega
  rw [List.getD_eq_getElem?_getD]
  by_cases h : x < i
  · rw [if_pos h, List.getElem?_append_left (by omega), List.getElem?_take_of_lt h, ← List.getD_eq_getElem?_getD]
  · rw [if_neg h, List.getElem?_append_right (by omega), hl]
    by_cases e : x = i
    · subst e; simp
    · rw [if_neg e, show x - i = (x - i - 1) + 1 from by omega, List.getElem?_cons_succ, List.getElem?_drop, show i + (x - i - 1) = x - 1 from by omega, ← List.getD_eq_getElem?_getD]

set_option maxRecDepth 100000 in
set_option maxHeartbeats 1000000 in
theorem ins_tail {w : World} {B p i : Nat} {v : Value} {xs : List Nat} {R : Ending → World → Prop}
    (hown : w.ownsRow B 30 1 v xs.length (u64s xs)) (hi : i ≤ xs.length) (hlen : xs.length ≤ 4096) (hB : B ≤ w.heap.size)
    (hR : ∀ v' w', w'.ownsRow B 30 1 v' (xs.length + 1) (u64s (xs.take i ++ p :: xs.drop i)) → Below B w w' → R (.returned v') w')
    {u2 u3 u4 u6 u7 u8 u9 u10 u11 u12 u13 u14 u15 u16 u17 u18 u19 u20 u21 u22 u23 u24 u25 u26 u27 u28 u29 u30 u31 u32 u33 u34 u35 u36 u37 u38 u39 u40 u41 u42 u43 u44 u45 u46 u47 u48 u49 u50 u51 u52 u53 u54 u55 u56 u57 : Value} :
    Code.wp Try.prog (tailC 4 (Try.f24.body.getD .skip)) (bodyPost Try.prog Try.f24 R) ⟨#[v, .int .u64 (p : Nat), u2, u3, u4, .int .i64 (i : Nat), u6, u7, u8, u9, u10, u11, u12, u13, u14, u15, u16, u17, u18, u19, u20, u21, u22, u23, u24, u25, u26, u27, u28, u29, u30, u31, u32, u33, u34, u35, u36, u37, u38, u39, u40, u41, u42, u43, u44, u45, u46, u47, u48, u49, u50, u51, u52, u53, u54, u55, u56, u57], []⟩ w := by
  obtain ⟨i30, hi30, hz30, hs30, hb30⟩ := info_parts Try.info30
  have HI : Hid _ := And.intro hi30 (And.intro hz30 (And.intro hs30 hb30))
  clear hi30 hz30 hs30 hb30
  have HR : Hid _ := hR
  clear hR
  conv => arg 2; whnf
  go_wp2_with (first | (at_builtin; refine wpList_append_own _ rfl _ _ 29 rfl B 30 i30 _ 1 8 Try.underlying29 HI.out.1 HI.out.2.1 HI.out.2.2.1 HI.out.2.2.2 rfl (by omega) v xs.length (u64s xs) rfl ?ao ⟨w.heap.size, 0, none⟩ 1 1 [.int .u64 0] rfl rfl ?an ?a1 ?a63 ?ab ?abase ?_))
  case ao => exact hown.alloc _
  case an => exact cell_one_new _ _ _
  case a1 => exact ints_oneCell .u64 [0]
  case a63 => unfold maxLen; omega
  case ab => omega
  case abase => simp; omega
  intro v' W1 hown1 hgr _
  have hbel : Below B w W1 := ((Below.refl _ _).alloc hB _).grown hgr (by simp; omega) (fun k e => (hown.lt k e).1)
  have hex : ∃ g cap, v' = .slice (some ⟨g, 0, none⟩) (xs.length + 1) cap := by
    rcases hown1.2 with ⟨_, hz⟩ | ⟨g', c', cur, hv, _⟩
    · omega
    · exact ⟨g', c', hv⟩
  obtain ⟨g, cap, rfl⟩ := hex
  have hgB := (hown1.lt g rfl).1
  have hown2 : W1.ownsRow B 30 1 (.slice (some ⟨g, 0, none⟩) (xs.length + 1) cap) (xs.length + 1) (u64s (xs ++ [0])) := by
    have e : u64s (xs ++ [0]) = u64s xs ++ [.int .u64 0] := by simp [u64s]
    rw [e]; exact hown1
  clear hown1 hgr hown
  go_wp2_with fail
  go_loopg [6] (xs.length - i) (fun k s6 wx => ∃ (j : Nat) (zs : List Nat), k = j - i ∧ i ≤ j ∧ j ≤ xs.length ∧ s6 = .int .i64 j ∧ zs.length = xs.length + 1 ∧ (∀ x, x ≤ xs.length → zs.getD x 0 = if j < x then xs.getD (x - 1) 0 else xs.getD x 0) ∧
    wx.ownsRow B 30 1 (.slice (some ⟨g, 0, none⟩) (xs.length + 1) cap) (xs.length + 1) (u64s zs) ∧ Below B w wx)
  case atStart =>
    refine ⟨xs.length, xs ++ [0], rfl, hi, Nat.le_refl _, by go_num, by simp, fun x hx => ?_, hown2, hbel⟩
    rw [if_neg (by omega)]
    by_cases h : x < xs.length
    · rw [List.getD_eq_getElem?_getD, List.getElem?_append_left h, ← List.getD_eq_getElem?_getD]
    · have : x = xs.length := by omega
      subst this
      simp [List.getD]
  case round =>
    clear hown2 hbel
    obtain ⟨j, zs, hk0, hij, hj, rfl, hzl, hz, hown, hbel⟩ := hrel
    have hk : Hid _ := hk0
    have HZ : Hid _ := hz
    clear hk0 hz
    by_cases hlt : i < j
    · have hltI : (i : Int) < (j : Int) := by omega
      have e1 : ((j - 1 : Nat) : Int) = (j : Int) - 1 := by omega
      have g1 : wr.cell? ⟨g, j - 1, none⟩ = some (.int .u64 (zs.getD (j - 1) 0 : Nat)) := by rw [hown.cellAt (j - 1) (by omega), u64s_get _ _ (by omega)]
      have g2 : wr.cell? ⟨g, j, none⟩ = some (.int .u64 (zs.getD j 0 : Nat)) := by rw [hown.cellAt j (by omega), u64s_get _ _ (by omega)]
      have g3 : wr.frozen? ⟨g, j, none⟩ = false := hown.frozenAt j
      obtain ⟨j', rfl⟩ : ∃ j', j = j' + 1 := ⟨j - 1, by omega⟩
      simp only [Nat.add_sub_cancel] at g1
      have hst := (hown.stored (j' + 1) (.int .u64 (zs.getD j' 0 : Nat))).1
      rw [u64s_set] at hst
      clear e1
      go_wp2_with fail
      go_roundg (j' - i)
      case measure => have := hk.out; omega
      case rel =>
        refine ⟨j', zs.set (j' + 1) (zs.getD j' 0), rfl, by omega, by omega, by go_num, by simpa using hzl, fun x hx => ?_, hst, hbel.setCell hgB _⟩
        rw [List.getD_eq_getElem?_getD, List.getElem?_set]
        by_cases h : j' + 1 = x
        · subst h
          rw [if_pos rfl, if_pos (by omega), if_pos (by omega)]
          have := HZ.out j' (by omega)
          rw [if_neg (by omega)] at this
          simpa using this
        · rw [if_neg h, ← List.getD_eq_getElem?_getD, HZ.out x hx]
          by_cases h2 : j' + 1 < x
          · rw [if_pos h2, if_pos (by omega)]
          · rw [if_neg h2, if_neg (by omega)]
    · have hltI : ¬ (i : Int) < (j : Int) := by omega
      have hji : j = i := by omega
      have g2 : wr.cell? ⟨g, i, none⟩ = some (.int .u64 (zs.getD i 0 : Nat)) := by rw [hown.cellAt i (by omega), u64s_get _ _ (by omega)]
      have g3 : wr.frozen? ⟨g, i, none⟩ = false := hown.frozenAt i
      have hst := (hown.stored i (.int .u64 (p : Nat))).1
      rw [u64s_set] at hst
      have hfin : zs.set i p = xs.take i ++ p :: xs.drop i := by
        refine list_ext_getD _ _ (by simp; omega) (fun x hx => ?_)
        have hx' : x ≤ xs.length := by simp at hx; omega
        rw [mid_get xs p i x hi, List.getD_eq_getElem?_getD, List.getElem?_set]
        by_cases h : i = x
        · subst h
          rw [if_pos rfl, if_pos (by omega), if_neg (by omega), if_pos rfl]
          rfl
        · rw [if_neg h, ← List.getD_eq_getElem?_getD, HZ.out x hx', hji]
          by_cases h2 : i < x
          · rw [if_pos h2, if_neg (by omega), if_neg (by omega)]
          · rw [if_neg h2, if_pos (by omega)]
      rw [hfin] at hst
      have hfinal := HR.out _ _ hst (hbel.setCell (p := ⟨g, i, none⟩) hgB (.int .u64 (p : Nat)))
      have HF : Hid _ := hfinal
      clear hfinal hfin hji
      have hiI : (i : Int) < (xs.length : Int) + 1 := by omega
      go_wp2_with fail
      exact HF.out

/-- insertUniqueB1 on a slice of the caller's own -/
def InsPost (B : Nat) (xs : List Nat) (p : Nat) (w : World) (e : Ending) (w' : World) : Prop :=
  ∃ v', e = .returned v' ∧ w'.ownsRow B 30 1 v' (ins xs p).length (u64s (ins xs p)) ∧ Below B w w'

theorem ins_end {B p i : Nat} {xs : List Nat} {w : World} (hi : i ≤ xs.length) (h1 : ∀ j, j < i → xs.getD j 0 < p) (h2 : i < xs.length → p < xs.getD i 0) :
    ∀ v' w', w'.ownsRow B 30 1 v' (xs.length + 1) (u64s (xs.take i ++ p :: xs.drop i)) → Below B w w' → InsPost B xs p w (.returned v') w' := by
  intro v' w' ho hb
  have e := ins_at xs p i hi h1 h2
  have hl : (ins xs p).length = xs.length + 1 := by rw [e]; simp; omega
  exact ⟨v', rfl, by rw [hl, e]; exact ho, hb⟩

set_option maxRecDepth 100000 in
set_option maxHeartbeats 1000000 in
theorem insert_any (w : World) (B p : Nat) (v : Value) (xs : List Nat) (hown : w.ownsRow B 30 1 v xs.length (u64s xs)) (hlen : xs.length ≤ 4096) (hB : B ≤ w.heap.size) :
    Calls Try.prog 24 #[v, .int .u64 (p : Nat)] w (InsPost B xs p w) := by
  rcases hown.2 with ⟨hv, hz⟩ | ⟨g, cap, cur, hv, _⟩
  · subst hv
    obtain rfl : xs = [] := List.eq_nil_of_length_eq_zero hz
    go_enter Try.func24, Try.ntmps24
    go_wp2_with fail
    go_loopg [5] 0 (fun k s5 wx => s5 = .int .i64 0 ∧ w = wx)
    case atStart => exact ⟨rfl, rfl⟩
    case round =>
      obtain ⟨rfl, rfl⟩ := hrel
      go_upto_if 32 with fail
      go_step
      go_step
      go_step
      go_step
      exact ins_tail (xs := []) (i := 0) hown (Nat.le_refl _) (by simp) hB (ins_end (Nat.le_refl _) (fun j hj => by omega) (fun h => by simp at h))
  · subst hv
    go_enter Try.func24, Try.ntmps24
    go_wp2_with fail
    go_loopg [5] xs.length (fun k s5 wx => ∃ i : Nat, k = xs.length - i ∧ i ≤ xs.length ∧ s5 = .int .i64 i ∧ w = wx ∧ ∀ j, j < i → xs.getD j 0 < p)
    case atStart => exact ⟨0, rfl, by omega, rfl, rfl, fun j hj => by omega⟩
    case round =>
      obtain ⟨i, hk0, hi, rfl, rfl, hlow⟩ := hrel
      have hk : Hid _ := hk0
      have HLOW : Hid _ := hlow
      clear hk0 hlow
      by_cases hlt : i < xs.length
      · have hltI : (i : Int) < (xs.length : Int) := by omega
        have hltD : decide ((i : Int) < (xs.length : Int)) = true := by rw [decide_eq_true_eq]; omega
        have g1 : w.cell? ⟨g, i, none⟩ = some (.int .u64 (xs.getD i 0 : Nat)) := by rw [hown.cellAt i (by omega), u64s_get _ _ (by omega)]
        by_cases hp : xs.getD i 0 < p
        · have hpI : (xs.getD i 0 : Int) < (p : Int) := by omega
          have hpD : decide ((xs.getD i 0 : Int) < (p : Int)) = true := by rw [decide_eq_true_eq]; omega
          generalize hy : xs.getD i 0 = y at *
          have HY : Hid _ := hy
          clear hy
          go_wp2_with fail
          go_roundg (xs.length - (i + 1))
          case measure => have := hk.out; omega
          case rel =>
            refine ⟨i + 1, rfl, by omega, by go_num, rfl, fun j hj => ?_⟩
            by_cases e : j = i
            · subst e; rw [HY.out]; exact hp
            · exact HLOW.out j (by omega)
        · have hpI : ¬ (xs.getD i 0 : Int) < (p : Int) := by omega
          have hpD : decide ((xs.getD i 0 : Int) < (p : Int)) = false := by rw [decide_eq_false_iff_not]; omega
          by_cases he : xs.getD i 0 = p
          · have heb : ((xs.getD i 0 : Int) == (p : Int)) = true := by rw [beq_iff_eq]; omega
            have hins := ins_in xs p i hlt HLOW.out he
            have HE : Hid _ := hins
            clear hins he
            generalize hy : xs.getD i 0 = y at *
            have HY : Hid _ := hy
            clear hy
            go_wp2_with fail
            go_ret
            exact ⟨_, rfl, by rw [HE.out]; exact hown, Below.refl _ _⟩
          · have heb : ((xs.getD i 0 : Int) == (p : Int)) = false := by rw [beq_eq_false_iff_ne]; omega
            have hend := ins_end (B := B) (w := w) hi HLOW.out (fun _ => by omega)
            have HE : Hid _ := hend
            clear hend he
            generalize hy : xs.getD i 0 = y at *
            have HY : Hid _ := hy
            clear hy
            go_upto_if 32 with fail
            go_step
            go_step
            go_step
            go_step
            exact ins_tail hown hi hlen hB HE.out
      · have hltI : ¬ (i : Int) < (xs.length : Int) := by omega
        have hltD : decide ((i : Int) < (xs.length : Int)) = false := by rw [decide_eq_false_iff_not]; omega
        have hend := ins_end (B := B) (w := w) hi HLOW.out (fun h => by omega)
        have HE : Hid _ := hend
        clear hend
        go_upto_if 32 with fail
        go_step
        go_step
        go_step
        go_step
        exact ins_tail hown hi hlen hB HE.out
end Go.Proofs.Qxb6602643a
