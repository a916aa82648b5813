/- canonicalCodesB1 and findNodeB1, walked. -/
import Derived.Test.Qxb6602643aTmPlain
import Derived.Test.Qxb6602643aZn
namespace Go.Proofs.Qxb6602643a
open Go.RowKit
set_option linter.unusedVariables false

set_option maxRecDepth 100000 in
set_option maxHeartbeats 4000000 in
theorem canon_any (w : World) (lb : Nat) (L : Nat → Nat) (hlb : lb < w.heap.size) (hL : ∀ i, i < 256 → w.cell? ⟨lb, i, none⟩ = some (.int .u8 (L i : Int))) (hm : ∀ i, i < 256 → L i ≤ 32) :
    Calls Try.prog 16 #[.pointer (some ⟨lb, 0, none⟩)] w fun e w' => e = .returned (.agg (codV L).toArray) ∧ Below w.heap.size w w' := by
  have hi38 : Hid ((Try.prog.info? 38).map (·.size) = some (codV L).length) := by show _ = _; rw [Try.size38, codV_length]
  have ho38 : ∀ v ∈ codV L, v.oneCell' = true := fun v hv => by obtain ⟨j, _, rfl⟩ := tab_mem hv; rfl
  have HL : Hid _ := hL
  have HB : Hid _ := hm
  clear hL hm
  go_enter Try.func16, Try.ntmps16
  go_wp2_with (refine wpList_alloc rfl 38 rfl _ Try.zero38 ?_)
  have r2 : ((w.alloc (.cells (Array.replicate 256 (.int .u64 0)) 38)).alloc (.cells (Array.replicate 256 (.int .u64 0)) 38)).rowIs w.heap.size 38 256 (fun _ => .int .u64 0) := ⟨_, heap_alloc2_old _ _ _, by simp, fun i hi => by simp [hi]⟩
  have r3 : ((w.alloc (.cells (Array.replicate 256 (.int .u64 0)) 38)).alloc (.cells (Array.replicate 256 (.int .u64 0)) 38)).rowIs (w.heap.size + 1) 38 256 (fun _ => .int .u64 0) := ⟨_, heap_alloc2_new _ _ _, by simp, fun i hi => by simp [hi]⟩
  have rb : Below w.heap.size w ((w.alloc (.cells (Array.replicate 256 (.int .u64 0)) 38)).alloc (.cells (Array.replicate 256 (.int .u64 0)) 38)) := ((Below.refl _ _).alloc (Nat.le_refl _) _).alloc (by simp) _
  generalize (w.alloc (.cells (Array.replicate 256 (.int .u64 0)) 38)).alloc (.cells (Array.replicate 256 (.int .u64 0)) 38) = W0 at *
  go_loopg [4] 256 (fun k s4 wx => ∃ c : Nat, k = 256 - c ∧ c ≤ 256 ∧ s4 = .int .i64 c ∧ Below w.heap.size w wx ∧ wx.rowIs w.heap.size 38 256 (fun _ => .int .u64 0) ∧ wx.rowIs (w.heap.size + 1) 38 256 (fun x => .int .u64 ((if x < c then codT L (lonT L 32) x else 0 : Nat) : Int)))
  case atStart => exact ⟨0, rfl, by omega, rfl, rb, r2, r3.congr (fun i _ => by simp)⟩
  case round =>
    clear rb r2 r3
    obtain ⟨c, hk0, hc, rfl, hb, hr2, hr3⟩ := hrel
    rename World => V
    have hk : Hid _ := hk0
    clear hk0
    by_cases hlt : c < 256
    · have hltI : (c : Int) < 256 := by omega
      have hltD : decide ((c : Int) < 256) = true := by rw [decide_eq_true_eq]; omega
      have hl32 := HB.out c hlt
      have g1 : V.cell? ⟨lb, c, none⟩ = some (.int .u8 (L c : Int)) := by rw [hb.cell (p := ⟨lb, c, none⟩) hlb]; exact HL.out c hlt
      by_cases hz : 1 ≤ L c
      · have hzb : ((L c : Int) == 0) = false := by rw [beq_eq_false_iff_ne]; omega
        go_wp2_with fail
        go_loopg [6, 7] 256 (fun k s6 s7 wx => ∃ e : Nat, k = 256 - e ∧ e ≤ 256 ∧ s7 = .int .i64 e ∧ s6 = .int .u64 (KS L c e : Nat) ∧ V = wx)
        case atStart => exact ⟨0, rfl, by omega, rfl, rfl, rfl⟩
        case round =>
          obtain ⟨e, hk1, he, rfl, rfl, rfl⟩ := hrel
          have hk2 : Hid _ := hk1
          clear hk1
          have hks := KS_le L c e
          by_cases hlt2 : e < 256
          · have hlt2I : (e : Int) < 256 := by omega
            have g5 : V.cell? ⟨lb, e, none⟩ = some (.int .u8 (L e : Int)) := by rw [hb.cell (p := ⟨lb, e, none⟩) hlb]; exact HL.out e hlt2
            have hle32 := HB.out e hlt2
            have hstep : KS L c (e + 1) = KS L c e + if 1 ≤ L e ∧ (L e < L c ∨ (L e = L c ∧ e < c)) then 2 ^ (32 - L e) else 0 := rfl
            have HST : Hid _ := hstep
            clear hstep
            have yes : 1 ≤ L e → (L e < L c ∨ (L e = L c ∧ e < c)) → Value.int IntKind.u64 (IntKind.u64.wrap ((KS L c e : Int) + IntKind.u64.wrap (2 ^ (32 - L e)))) = .int .u64 (KS L c (e + 1) : Nat) := by
              intro y1 y2
              have e2 := pow31 (32 - L e) (by omega)
              rw [HST.out, if_pos ⟨y1, y2⟩, two_pow_cast, wrap_u64_nat _ (by omega), ← Int.natCast_add, wrap_u64_nat _ (by omega)]
            have no : ¬ (1 ≤ L e ∧ (L e < L c ∨ (L e = L c ∧ e < c))) → Value.int IntKind.u64 (KS L c e : Nat) = .int .u64 (KS L c (e + 1) : Nat) := by
              intro y
              rw [HST.out, if_neg y]; rfl
            have YES : Hid _ := And.intro yes no
            clear yes no
            by_cases y0 : 1 ≤ L e
            · have y0' : (0 : Int) < (L e : Int) := by omega
              by_cases y1 : L e < L c
              · have y1' : (L e : Int) < (L c : Int) := by omega
                go_wp2_with fail
                go_roundg (256 - (e + 1))
                case measure => have := hk2.out; omega
                case rel => exact ⟨e + 1, rfl, by omega, by go_num, YES.out.1 y0 (.inl y1), rfl⟩
              · have y1' : ¬ (L e : Int) < (L c : Int) := by omega
                by_cases y2 : L e = L c
                · have y2' : ((L e : Int) == (L c : Int)) = true := by rw [beq_iff_eq]; omega
                  have Y2 : Hid _ := y2
                  clear y2
                  by_cases y3 : e < c
                  · have y3' : (e : Int) < (c : Int) := by omega
                    go_wp2_with fail
                    go_roundg (256 - (e + 1))
                    case measure => have := hk2.out; omega
                    case rel => exact ⟨e + 1, rfl, by omega, by go_num, YES.out.1 y0 (.inr ⟨Y2.out, y3⟩), rfl⟩
                  · have y3' : ¬ (e : Int) < (c : Int) := by omega
                    go_wp2_with fail
                    go_roundg (256 - (e + 1))
                    case measure => have := hk2.out; omega
                    case rel => exact ⟨e + 1, rfl, by omega, by go_num, YES.out.2 (by have := Y2.out; omega), rfl⟩
                · have y2' : ((L e : Int) == (L c : Int)) = false := by rw [beq_eq_false_iff_ne]; omega
                  go_wp2_with fail
                  go_roundg (256 - (e + 1))
                  case measure => have := hk2.out; omega
                  case rel => exact ⟨e + 1, rfl, by omega, by go_num, YES.out.2 (by omega), rfl⟩
            · have y0' : ¬ (0 : Int) < (L e : Int) := by omega
              go_wp2_with fail
              go_roundg (256 - (e + 1))
              case measure => have := hk2.out; omega
              case rel => exact ⟨e + 1, rfl, by omega, by go_num, YES.out.2 (by omega), rfl⟩
          · have hlt2I : ¬ (e : Int) < 256 := by omega
            have he' : e = 256 := by omega
            subst he'
            have hcod : (KS L c 256 : Int) / 2 ^ (32 - L c) = (codT L (lonT L 32) c : Int) := by rw [two_pow_cast, ← Int.natCast_ediv, code_closed L HB.out c hlt hz]
            have g6 : V.cell? ⟨w.heap.size + 1, c, none⟩ = some (.int .u64 0) := by rw [hr3.cell hlt, if_neg (by omega)]; rfl
            have g7 : V.frozen? ⟨w.heap.size + 1, c, none⟩ = false := hr3.frozen _
            go_wp2_with fail
            go_roundg (256 - (c + 1))
            case measure => have := hk.out; omega
            case rel =>
              refine ⟨c + 1, rfl, by omega, by go_num, hb.setCell (by simp) _, hr2.setOther (by simp) _, (hr3.set c _).congr (fun x hx => ?_)⟩
              by_cases e : x = c
              · rw [if_pos e, if_pos (by omega), e]
              · rw [if_neg e]
                by_cases e2 : x < c
                · rw [if_pos e2, if_pos (by omega)]
                · rw [if_neg e2, if_neg (by omega)]
      · have hzb : ((L c : Int) == 0) = true := by rw [beq_iff_eq]; omega
        go_wp2_with fail
        go_roundg (256 - (c + 1))
        case measure => have := hk.out; omega
        case rel =>
          refine ⟨c + 1, rfl, by omega, by go_num, hb, hr2, hr3.congr (fun x hx => ?_)⟩
          by_cases e : x < c
          · rw [if_pos e, if_pos (by omega)]
          · rw [if_neg e]
            by_cases e2 : x = c
            · subst e2; rw [if_pos (by omega)]; unfold codT; rw [if_neg (fun y => hz y.1)]
            · rw [if_neg (by omega)]
    · have hltI : ¬ (c : Int) < 256 := by omega
      have hc' : c = 256 := by omega
      subst hc'
      have hrg : V.rangeAt (w.heap.size + 1) 0 (codV L) := rangeAt_rowIs hr3 0 256 (by omega) _ (fun j hj => by rw [Nat.zero_add, if_pos hj])
      obtain ⟨c2, hb2, hn2, _⟩ := hr2
      have hld : (loadVar 38 ⟨w.heap.size, 0, none⟩).run Try.prog (V.setRow w.heap.size (codV L).toArray) = .ok (.agg (codV L).toArray) (V.setRow w.heap.size (codV L).toArray) :=
        run_loadVar_row _ _ 38 38 (codV L).toArray (0, 0) _ (setRow_heap V w.heap.size c2 _ 38 _ hb2) Try.underlying38 rfl (by simpa using hi38.out)
      have hend := below_setRow hb (Nat.le_refl _) (codV L).toArray
      go_wp2_with (first | refine wpList_load_mid rfl 38 _ rfl (w.heap.size + 1) 0 rfl (codV L) _ hrg Try.underlying38 rfl hi38.out ?_ | refine wpList_store_row rfl 38 _ _ rfl w.heap.size (codV L).toArray rfl rfl 38 c2 hb2 ?_ ?_ ?_ ?_)
      · simpa using hi38.out
      · simp [codV_length]
      · simpa using ho38
      go_wp2_with fail
      exact bodyPost_ret (results_cell_row rfl _ _ w.heap.size 38 (codV L).toArray (0, 0) _ rfl (setRow_heap V w.heap.size c2 _ 38 _ hb2) Try.underlying38 rfl (by simpa using hi38.out)) rfl ⟨rfl, hend⟩

set_option maxRecDepth 100000 in
set_option maxHeartbeats 1000000 in
theorem find_any (w : World) (g1 g2 T c1 c2 d p : Nat) (D P : Nat → Nat) (hT : T ≤ 16384) (h1 : ∀ k, k < T → w.cell? ⟨g1, k, none⟩ = some (.int .i64 (D k : Nat))) (h2 : ∀ k, k < T → w.cell? ⟨g2, k, none⟩ = some (.int .u64 (P k : Nat))) :
    Calls Try.prog 18 #[.slice (some ⟨g1, 0, none⟩) T c1, .slice (some ⟨g2, 0, none⟩) T c2, .int .i64 (d : Nat), .int .u64 (p : Nat)] w fun e w' => (∃ r : Int, e = .returned (.int .i64 r) ∧ ((∃ k : Nat, k < T ∧ r = k ∧ D k = d ∧ P k = p) ∨ (r = -1 ∧ ∀ k, k < T → ¬ (D k = d ∧ P k = p)))) ∧ w' = w := by
  have H1 : Hid _ := h1
  have H2 : Hid _ := h2
  clear h1 h2
  go_enter Try.func18, Try.ntmps18
  go_wp2_with fail
  go_loopg [9] T (fun k s9 wx => ∃ j : Nat, k = T - j ∧ j ≤ T ∧ s9 = .int .i64 j ∧ w = wx ∧ ∀ i, i < j → ¬ (D i = d ∧ P i = p))
  case atStart => exact ⟨0, rfl, by omega, rfl, rfl, fun i hi => by omega⟩
  case round =>
    obtain ⟨j, hk0, hj, rfl, rfl, hno⟩ := hrel
    have hk : Hid _ := hk0
    have HNO : Hid _ := hno
    clear hk0 hno
    by_cases hlt : j < T
    · have hltI : (j : Int) < (T : Int) := by omega
      have a1 := H1.out j hlt
      have a2 := H2.out j hlt
      by_cases e1 : D j = d
      · have t1 : ((D j : Int) == (d : Int)) = true := by rw [beq_iff_eq]; omega
        have E1 : Hid _ := e1
        clear e1
        by_cases e2 : P j = p
        · have t2 : ((P j : Int) == (p : Int)) = true := by rw [beq_iff_eq]; omega
          have E2 : Hid _ := e2
          clear e2
          go_wp2_with fail
          go_ret
          exact ⟨⟨_, rfl, .inl ⟨j, hlt, rfl, E1.out, E2.out⟩⟩, rfl⟩
        · have t2 : ((P j : Int) == (p : Int)) = false := by rw [beq_eq_false_iff_ne]; omega
          go_wp2_with fail
          go_roundg (T - (j + 1))
          case measure => have := hk.out; omega
          case rel =>
            refine ⟨j + 1, rfl, by omega, by go_num, rfl, fun i hi => ?_⟩
            by_cases x : i = j
            · subst x; exact fun y => e2 y.2
            · exact HNO.out i (by omega)
      · have t1 : ((D j : Int) == (d : Int)) = false := by rw [beq_eq_false_iff_ne]; omega
        go_wp2_with fail
        go_roundg (T - (j + 1))
        case measure => have := hk.out; omega
        case rel =>
          refine ⟨j + 1, rfl, by omega, by go_num, rfl, fun i hi => ?_⟩
          by_cases x : i = j
          · subst x; exact fun y => e1 y.1
          · exact HNO.out i (by omega)
    · have hltI : ¬ (j : Int) < (T : Int) := by omega
      go_wp2_with fail
      go_ret
      exact ⟨⟨_, rfl, .inr ⟨rfl, fun k hk a b => HNO.out k (by omega) ⟨a, b⟩⟩⟩, rfl⟩
end Go.Proofs.Qxb6602643a
