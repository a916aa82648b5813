/- internalNodesB1, walked. -/
import Derived.Test.Qxb6602643aTmI
import Derived.Test.Qxb6602643aDcA
namespace Go.Proofs.Qxb6602643a
open Go.RowKit
set_option linter.unusedVariables false

theorem Try.info3 : (Try.prog.info? 3).map (fun i => (i.zero, i.size, i.bytes)) = some (some (.int .i64 0), 1, 8) := by kernel_rfl
def i64s (l : List Nat) : List Value := l.map fun c => Value.int .i64 (c : Nat)

/-- rows of two element types are two rows -/
theorem own_apart {w : World} {b1 b2 n1 n2 : Nat} {v1 v2 : Value} {x1 x2 : List Value} (h1 : w.ownsRow b1 3 1 v1 n1 x1) (h2 : w.ownsRow b2 30 1 v2 n2 x2) : (v2.ownBlock = none ∨ v2.ownBlock ≠ v1.ownBlock) ∧ (v1.ownBlock = none ∨ v1.ownBlock ≠ v2.ownBlock) := by
  rcases h1.2 with ⟨rfl, _⟩ | ⟨g1, c1, cur1, rfl, _, k1, _⟩
  · rcases h2.2 with ⟨rfl, _⟩ | ⟨g2, c2, cur2, rfl, _, k2, _⟩
    · exact ⟨.inl rfl, .inl rfl⟩
    · exact ⟨.inr (by simp [Value.ownBlock]), .inl rfl⟩
  · rcases h2.2 with ⟨rfl, _⟩ | ⟨g2, c2, cur2, rfl, _, k2, _⟩
    · exact ⟨.inl rfl, .inr (by simp [Value.ownBlock])⟩
    · have hne : g2 ≠ g1 := by
        rintro rfl
        rw [k1] at k2
        simp at k2
      exact ⟨.inr (by simp [Value.ownBlock]; exact hne), .inr (by simp [Value.ownBlock]; exact fun h => hne h.symm)⟩

theorem ownsRow_below {w w' : World} {B base n : Nat} {e : TypeId} {v : Value} {xs : List Value} (h : w.ownsRow base e 1 v n xs) (hb : Below B w w') (hB : w.heap.size ≤ B) : w'.ownsRow base e 1 v n xs := by
  refine ⟨h.1, ?_⟩
  rcases h.2 with h2 | ⟨g, cap, cur, hv, hg, hh, r⟩
  · exact .inl h2
  · have : g < w.heap.size := (Array.getElem?_eq_some_iff.1 hh).1
    exact .inr ⟨g, cap, cur, hv, hg, by rw [hb.block g (by omega)]; exact hh, r⟩

theorem range'_snoc (b n : Nat) : List.range' b (n + 1) = List.range' b n ++ [b + n] := by
  rw [List.range'_concat]; simp

theorem ins_length (xs : List Nat) (p : Nat) : (ins xs p).length ≤ xs.length + 1 := by
  induction xs with
  | nil => simp [ins]
  | cons x xs ih =>
    simp only [ins]
    split
    · simpa using ih
    · split <;> simp
theorem psT_len (L : Nat → Nat) (d c : Nat) (hc : c ≤ 256) : (psT L d c).length ≤ 4096 := by
  have : ∀ c, (psT L d c).length ≤ c := by
    intro c
    induction c with
    | zero => simp [psT]
    | succ c ih =>
      simp only [psT]
      split
      · have := ins_length (psT L d c) (pr L (posT L c) d); omega
      · omega
  have := this c
  omega

set_option maxRecDepth 100000 in
set_option maxHeartbeats 4000000 in
theorem internal_any (w : World) (lb b10 : Nat) (L : Nat → Nat) (hlb : lb < w.heap.size) (hb10 : b10 < w.heap.size) (hL : ∀ i, i < 256 → w.cell? ⟨lb, i, none⟩ = some (.int .u8 (L i : Int)))
    (hcd : ∀ i, i < 256 → w.cell? ⟨b10, i, none⟩ = some (.int .u64 (codT L (lonT L 32) i : Nat))) (hm : ∀ i, i < 256 → L i ≤ 32) (hK : SK L (lonT L 32) ≤ 2 ^ 32) :
    Calls Try.prog 17 #[.pointer (some ⟨lb, 0, none⟩), .pointer (some ⟨b10, 0, none⟩)] w fun e w' => ∃ v6 v7, e = .returned (.tuple #[v6, v7]) ∧ w'.ownsRow w.heap.size 3 1 v6 (NB L 32) (i64s (dl L 32)) ∧ w'.ownsRow w.heap.size 30 1 v7 (NB L 32) (u64s (pl L 32)) ∧ Below w.heap.size w w' := by
  obtain ⟨i30, hi30, hz30, hs30, hb30⟩ := info_parts Try.info30
  have HI30 : Hid _ := And.intro hi30 (And.intro hz30 (And.intro hs30 hb30))
  obtain ⟨i3, hi3, hz3, hs3, hb3⟩ := info_parts Try.info3
  have HI3 : Hid _ := And.intro hi3 (And.intro hz3 (And.intro hs3 hb3))
  have HL : Hid _ := hL
  have HCD : Hid _ := hcd
  have HB : Hid _ := hm
  have HK : Hid _ := hK
  clear hi30 hz30 hs30 hb30 hi3 hz3 hs3 hb3 hL hcd hm hK
  go_enter Try.func17, Try.ntmps17
  go_wp2_with fail
  go_loopg [6, 7, 8] 32 (fun k s6 s7 s8 wx => ∃ d : Nat, k = 32 - d ∧ d ≤ 32 ∧ s8 = .int .i64 d ∧ wx.ownsRow w.heap.size 3 1 s6 (NB L d) (i64s (dl L d)) ∧ wx.ownsRow w.heap.size 30 1 s7 (NB L d) (u64s (pl L d)) ∧ Below w.heap.size w wx)
  case atStart => exact ⟨0, rfl, by omega, rfl, World.ownsRow_nil _ _ _ _, World.ownsRow_nil _ _ _ _, Below.refl _ _⟩
  case round =>
    obtain ⟨d, hk0, hd, rfl, ho6, ho7, hbel⟩ := hrel
    rename World => V
    have hk : Hid _ := hk0
    clear hk0
    by_cases hlt : d < 32
    · have hltI : (d : Int) < 32 := by omega
      have hltD : decide ((d : Int) < 32) = true := by rw [decide_eq_true_eq]; omega
      have hVs := hbel.size
      go_wp2_with fail
      go_loopg [9, 10] 256 (fun k s9 s10 wx => ∃ c : Nat, k = 256 - c ∧ c ≤ 256 ∧ s10 = .int .i64 c ∧ wx.ownsRow V.heap.size 30 1 s9 (psT L d c).length (u64s (psT L d c)) ∧ Below V.heap.size V wx)
      case atStart => exact ⟨0, rfl, by omega, rfl, World.ownsRow_nil _ _ _ _, Below.refl _ _⟩
      case round =>
        obtain ⟨c, hk1, hc, rfl, ho9, hb9⟩ := hrel
        have hk2 : Hid _ := hk1
        clear hk1
        by_cases hlt2 : c < 256
        · have hlt2I : (c : Int) < 256 := by omega
          have hl32 := HB.out c hlt2
          have hb9' := hbel.trans (hb9.mono hVs)
          have g1 : wr.cell? ⟨lb, c, none⟩ = some (.int .u8 (L c : Int)) := by rw [hb9'.cell (p := ⟨lb, c, none⟩) hlb]; exact HL.out c hlt2
          have hps : psT L d (c + 1) = if d < L c then ins (psT L d c) (pr L (posT L c) d) else psT L d c := rfl
          have HPS : Hid _ := hps
          clear hps
          by_cases hdl : d < L c
          · have hdlI : (d : Int) < (L c : Int) := by omega
            obtain ⟨p1, p2, p3, p4⟩ := codT_c L HB.out c hlt2 (by omega)
            have g2 : wr.cell? ⟨b10, c, none⟩ = some (.int .u64 (pr L (posT L c) (L c) : Nat)) := by rw [hb9'.cell (p := ⟨b10, c, none⟩) hb10, HCD.out c hlt2, p4]
            have hpl := pr_lt L (posT L c) (L c) HK.out p1 hl32
            have hpl2 : 2 ^ L c ≤ 4294967296 := Nat.le_trans (pow_le hl32) (Nat.le_of_eq rfl)
            have hshr : (pr L (posT L c) (L c) : Int) / 2 ^ (L c - d) = (pr L (posT L c) d : Int) := by rw [two_pow_cast, ← Int.natCast_ediv, pr_shift L _ (L c) d hl32 (by omega)]
            have hplen : (psT L d c).length ≤ 4096 := psT_len L d c hc
            clear p2 p3 p4
            go_wp2_with fail
            refine (insert_any wr V.heap.size (pr L (posT L c) d) _ (psT L d c) ho9 hplen hb9.size).mono ?_
            rintro e w5 ⟨v', rfl, ho', hb'⟩
            go_wp2_with fail
            go_roundg (256 - (c + 1))
            case measure => have := hk2.out; omega
            case rel =>
              refine ⟨c + 1, rfl, by omega, by go_num, ?_, hb9.trans hb'⟩
              rw [HPS.out, if_pos hdl]
              exact ho'
          · have hdlI : ¬ (d : Int) < (L c : Int) := by omega
            go_wp2_with fail
            go_roundg (256 - (c + 1))
            case measure => have := hk2.out; omega
            case rel =>
              refine ⟨c + 1, rfl, by omega, by go_num, ?_, hb9⟩
              rw [HPS.out, if_neg hdl]
              exact ho9
        · have hlt2I : ¬ (c : Int) < 256 := by omega
          have hc' : c = 256 := by omega
          subst hc'
          have hall := psT_all L HB.out d
          have hNNle := NN_le L d
          have hNBle := NB_le L d
          have hlen : (psT L d 256).length = NN L d := by rw [hall, List.length_range']
          rw [hlen, hall] at ho9
          have hdl1 : dl L (d + 1) = dl L d ++ List.replicate (NN L d) d := rfl
          have hpl1 : pl L (d + 1) = pl L d ++ List.range' (pr L (lonT L d) d) (NN L d) := rfl
          have hNB1 : NB L (d + 1) = NB L d + NN L d := rfl
          have ho6' := ownsRow_below ho6 hb9 (Nat.le_refl _)
          have ho7' := ownsRow_below ho7 hb9 (Nat.le_refl _)
          have hbw := hbel.trans (hb9.mono hVs)
          have h7lt : ∀ k, u7.ownBlock = some k → k < V.heap.size := fun k e => (ho7.lt k e).2
          have HD : Hid _ := And.intro hdl1 (And.intro hpl1 hNB1)
          clear hall hlen hdl1 hpl1 hNB1 ho6 ho7 hbel
          rcases ho9.2 with ⟨hv9, hz9⟩ | ⟨g9, cap9, cur9, hv9, hg9, _⟩
          · subst hv9
            go_wp2_with fail
            go_loopg [6, 7, 12] 0 (fun k s6 s7 s12 wx => s12 = .int .i64 0 ∧ s6 = u6 ∧ s7 = u7 ∧ wr = wx)
            case atStart => exact ⟨rfl, rfl, rfl, rfl⟩
            case round =>
              obtain ⟨rfl, rfl, rfl, rfl⟩ := hrel
              go_wp2_with fail
              go_roundg (32 - (d + 1))
              case measure => have := hk.out; omega
              case rel =>
                refine ⟨d + 1, rfl, by omega, by go_num, ?_, ?_, hbw⟩
                · rw [HD.out.2.2, HD.out.1, hz9, List.replicate_zero, List.append_nil]; exact ho6'
                · rw [HD.out.2.2, HD.out.2.1, hz9, List.range'_zero, List.append_nil]; exact ho7'
          · subst hv9
            go_wp2_with fail
            go_loopg [6, 7, 12] (NN L d) (fun k s6 s7 s12 wx => ∃ i : Nat, k = NN L d - i ∧ i ≤ NN L d ∧ s12 = .int .i64 i ∧ wx.ownsRow w.heap.size 3 1 s6 (NB L d + i) (i64s (dl L d ++ List.replicate i d)) ∧ wx.ownsRow w.heap.size 30 1 s7 (NB L d + i) (u64s (pl L d ++ List.range' (pr L (lonT L d) d) i)) ∧
              wx.ownsRow V.heap.size 30 1 (.slice (some ⟨g9, 0, none⟩) (NN L d) cap9) (NN L d) (u64s (List.range' (pr L (lonT L d) d) (NN L d))) ∧ s7.ownBlock ≠ some g9 ∧ Below w.heap.size w wx)
            case atStart => exact ⟨0, rfl, by omega, rfl, by simpa using ho6', by simpa using ho7', ho9, fun e => by have := h7lt g9 e; omega, hbw⟩
            case round =>
              clear ho9 ho6' ho7' hb9 hbw h7lt hk2
              obtain ⟨i, hk3, hi, rfl, ho6, ho7, ho9, hne, hbw⟩ := hrel
              have hk4 : Hid _ := hk3
              have HNE : Hid _ := hne
              clear hk3 hne
              by_cases hlt3 : i < NN L d
              · have hlt3I : (i : Int) < (NN L d : Int) := by omega
                have hbws := hbw.size
                go_upto_region 17 with (at_builtin; refine wpList_append_own _ rfl _ _ 45 rfl w.heap.size 3 i3 _ 1 8 Try.underlying45 HI3.out.1 HI3.out.2.1 HI3.out.2.2.1 HI3.out.2.2.2 rfl (by omega) u6 (NB L d + i) (i64s (dl L d ++ List.replicate i d)) rfl ?ao ⟨wr.heap.size, 0, none⟩ 1 1 [.int .i64 (d : Int)] rfl rfl ?an ?a1 ?a63 ?ab ?abase ?_)
                case ao => exact ho6.alloc _
                case an => exact cell_one_new _ _ _
                case a1 => exact ints_oneCell .i64 [(d : Int)]
                case a63 => unfold maxLen; omega
                case ab => omega
                case abase => simp; omega
                intro v6 W1 ho6b hgr1 _
                have ap := own_apart (ho6.alloc (.cells #[.int .i64 (d : Int)] 3)) (ho7.alloc (.cells #[.int .i64 (d : Int)] 3))
                have ap9 := own_apart (ho6.alloc (.cells #[.int .i64 (d : Int)] 3)) (ho9.alloc (.cells #[.int .i64 (d : Int)] 3))
                have ho7b := (ho7.alloc (.cells #[.int .i64 (d : Int)] 3)).kept hgr1 ap.1
                have ho9b := (ho9.alloc (.cells #[.int .i64 (d : Int)] 3)).kept hgr1 ap9.1
                have hbw1 : Below w.heap.size w W1 := (hbw.alloc hbws _).grown hgr1 (by simp; omega) (fun k e => (ho6.lt k e).1)
                have hW1s := hbw1.size
                have hg9lt := (ho9b.lt g9 rfl).2
                clear ho6 ho7 ho9 hgr1 ap ap9
                have g1 : W1.cell? ⟨g9, i, none⟩ = some (.int .u64 (pr L (lonT L d) d + i : Nat)) := by
                  rw [ho9b.cellAt i (by omega), u64s_get _ _ (by rw [List.length_range']; exact hlt3), List.getD_eq_getElem?_getD, List.getElem?_range' hlt3]
                  simp
                go_upto_region 15 with (at_builtin; refine wpList_append_own_at _ rfl _ _ 29 rfl w.heap.size 30 i30 _ 1 8 Try.underlying29 HI30.out.1 HI30.out.2.1 HI30.out.2.2.1 HI30.out.2.2.2 rfl (by omega) u7 (NB L d + i) (u64s (pl L d ++ List.range' (pr L (lonT L d) d) i)) rfl ?bo ⟨W1.heap.size, 0, none⟩ 1 1 [.int .u64 ((pr L (lonT L d) d + i : Nat) : Int)] rfl rfl ?bn ?b1 ?b63 ?bb ?bbase ?_)
                case bo => exact ho7b.alloc _
                case bn => exact cell_one_new _ _ _
                case b1 => exact ints_oneCell .u64 [((pr L (lonT L d) d + i : Nat) : Int)]
                case b63 => unfold maxLen; omega
                case bb => omega
                case bbase => simp; omega
                intro v7 W2 ho7c hgr2 _ hat
                have ap := own_apart (ho6b.alloc (.cells #[.int .u64 ((pr L (lonT L d) d + i : Nat) : Int)] 30)) (ho7b.alloc (.cells #[.int .u64 ((pr L (lonT L d) d + i : Nat) : Int)] 30))
                have ho6c := (ho6b.alloc (.cells #[.int .u64 ((pr L (lonT L d) d + i : Nat) : Int)] 30)).kept hgr2 ap.2
                have ho9c := (ho9b.alloc (.cells #[.int .u64 ((pr L (lonT L d) d + i : Nat) : Int)] 30)).kept hgr2 (.inr (fun e => HNE.out e.symm))
                have hbw2 : Below w.heap.size w W2 := (hbw1.alloc hW1s _).grown hgr2 (by simp; omega) (fun k e => (ho7b.lt k e).1)
                have hne2 : v7.ownBlock ≠ some g9 := by
                  rcases hat with h | h
                  · rw [h]; exact HNE.out
                  · rw [h]
                    try simp only [World.size_alloc]
                    intro e
                    have := Option.some.inj e
                    omega
                have HNE2 : Hid _ := hne2
                clear hgr2 hat ap ho6b ho7b ho9b hne2
                go_wp2_with fail
                go_roundg (NN L d - (i + 1))
                case measure => have := hk4.out; omega
                case rel =>
                  refine ⟨i + 1, rfl, by omega, by go_num, ?_, ?_, ho9c, HNE2.out, hbw2⟩
                  · have e1 : i64s (dl L d ++ List.replicate (i + 1) d) = i64s (dl L d ++ List.replicate i d) ++ [.int .i64 (d : Int)] := by
                      rw [List.replicate_succ', ← List.append_assoc]; simp [i64s]
                    rw [e1]; exact ho6c
                  · have e2 : u64s (pl L d ++ List.range' (pr L (lonT L d) d) (i + 1)) = u64s (pl L d ++ List.range' (pr L (lonT L d) d) i) ++ [.int .u64 ((pr L (lonT L d) d + i : Nat) : Int)] := by
                      rw [range'_snoc, ← List.append_assoc]; simp [u64s]
                    rw [e2]; exact ho7c
              · have hlt3I : ¬ (i : Int) < (NN L d : Int) := by omega
                have hi' : i = NN L d := by omega
                subst hi'
                go_wp2_with fail
                go_roundg (32 - (d + 1))
                case measure => have := hk.out; omega
                case rel =>
                  refine ⟨d + 1, rfl, by omega, by go_num, ?_, ?_, hbw⟩
                  · rw [HD.out.2.2, HD.out.1]; exact ho6
                  · rw [HD.out.2.2, HD.out.2.1]; exact ho7
    · have hltI : ¬ (d : Int) < 32 := by omega
      have hd' : d = 32 := by omega
      subst hd'
      go_wp2_with fail
      go_ret2
      exact ⟨_, _, rfl, ho6, ho7, hbel⟩
end Go.Proofs.Qxb6602643a
