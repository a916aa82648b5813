/- codeOrder, walked. -/
import Derived.Test.Qxb6602643aRows
import Derived.Test.Qxb6602643aCoPlain
import Derived.Test.Qxb6602643aKit
import Derived.Deep.RegionHeld3
namespace Go.Proofs.Qxb6602643a
open Go.RowKit
set_option linter.unusedVariables false

theorem Try.info25 : (Try.prog.info? 25).map (·.size) = some 33 := by kernel_rfl
theorem Try.info5 : (Try.prog.info? 5).map (fun i => (i.zero, i.size, i.bytes)) = some (some (.int .u8 0), 1, 1) := by kernel_rfl

def lonV (L : Nat → Nat) : List Value := tab 33 fun l => Value.int .i64 (lonT L l)
theorem lonV_length (L : Nat → Nat) : (lonV L).length = 33 := tab_length _ _

/-- what codeOrder leaves -/
def CoPost (L : Nat → Nat) (w : World) (e : Ending) (w' : World) : Prop :=
  ∃ g, e = .returned (.tuple #[.slice (some ⟨g, 0, none⟩) (lonT L 32) (lonT L 32), .agg (lonV L).toArray]) ∧ w.heap.size ≤ g ∧
    w'.rowIs g 5 (lonT L 32) (fun i => .int .u8 ((ordL L 32).getD i 0 : Nat)) ∧ Below w.heap.size w w'

set_option maxRecDepth 100000 in
set_option maxHeartbeats 1000000 in
theorem codeOrder_any (w : World) (b : Nat) (L : Nat → Nat) (hb : b < w.heap.size) (hL : ∀ i, i < 256 → w.cell? ⟨b, i, none⟩ = some (.int .u8 (L i : Int))) (hm : ∀ i, i < 256 → L i ≤ 32) :
    Calls Try.prog 20 #[.pointer (some ⟨b, 0, none⟩)] w (CoPost L w) := by
  have hmk := fun n h1 h2 => run_make_row' (P := Try.prog) 24 5 (.int .u8 0) 1 Try.underlying24 Try.info5 rfl .i64 .i64 n h1 h2
  have HM : Hid _ := hmk
  clear hmk
  have HL : Hid _ := hL
  have HB : Hid _ := hm
  clear hL hm
  go_enter Try.func20, Try.ntmps20
  go_wp2
  go_loopg [12] 256 (fun k i wr => ∃ j : Nat, k = 256 - j ∧ j ≤ 256 ∧ i = .int .i64 j ∧ Below w.heap.size w wr ∧ wr.heap.size = w.heap.size + 2 ∧
    wr.rowIs w.heap.size 25 33 (fun _ => .int .i64 0) ∧ wr.rowIs (w.heap.size + 1) 25 33 (fun l => .int .i64 (cntTo L l j)))
  case atStart =>
    refine ⟨0, rfl, by omega, rfl, ?_, ?_, ?_, ?_⟩
    · exact ((Below.refl _ _).alloc (Nat.le_refl _) _).alloc (by simp) _
    · simp
    · exact (World.rowIs_alloc w _ 25 _ (all_get _ _ (by simp))).alloc _
    · exact (rowIs_alloc_at (f := fun _ => .int .i64 0) (by simp) _ 25 (all_get _ _ (by simp))).congr (fun i _ => by simp [cntTo])
  case round =>
    obtain ⟨j, hk0, hj, rfl, hbel, hsz, hr3, hr4⟩ := hrel
    have hk : Hid _ := hk0
    clear hk0
    by_cases hlt : j < 256
    · have hlj := HB.out j hlt
      have hlj' : L j < 33 := by omega
      have hc := cntTo_le L (L j) j
      have g1 : wr.cell? ⟨b, j, none⟩ = some (.int .u8 (L j : Int)) := by rw [hbel.cell (p := ⟨b, j, none⟩) hb]; exact HL.out j hlt
      have g2 : wr.cell? ⟨w.heap.size + 1, L j, none⟩ = some (.int .i64 (cntTo L (L j) j)) := hr4.cell (by omega)
      have g3 : wr.frozen? ⟨w.heap.size + 1, L j, none⟩ = false := hr4.frozen _
      go_wp2
      go_roundg (256 - (j + 1))
      case measure => have := hk.out; omega
      case rel =>
        refine ⟨j + 1, rfl, by omega, by go_num, hbel.setCell (by simp) _, by simpa using hsz, hr3.setOther (by simp) _, (hr4.set (L j) _).congr ?_⟩
        intro i hi
        simp only [cntTo]
        by_cases e : i = L j
        · subst e; simp
        · rw [if_neg e, if_neg (fun h => e h.symm)]; simp
    · have hj256 : j = 256 := by omega
      subst hj256
      go_wp2
      go_loopg [7] 32 (fun k i wr => ∃ d : Nat, k = 32 - d ∧ d ≤ 32 ∧ i = .int .i64 ((d + 1 : Nat) : Int) ∧ Below w.heap.size w wr ∧ wr.heap.size = w.heap.size + 2 ∧
        wr.rowIs w.heap.size 25 33 (fun l => .int .i64 (if l ≤ d then (lonT L l : Nat) else (0 : Nat) : Nat)) ∧ wr.rowIs (w.heap.size + 1) 25 33 (fun l => .int .i64 (cntTo L l 256)))
      case atStart =>
        refine ⟨0, rfl, by omega, rfl, hbel, hsz, hr3.congr ?_, hr4⟩
        intro i hi
        by_cases e : i = 0
        · subst e; rfl
        · simp [e]
      case round =>
        clear hbel hsz hr3 hr4
        obtain ⟨d, hk1, hd, rfl, hbel, hsz, hr3, hr4⟩ := hrel
        have hk' : Hid _ := hk1
        clear hk1 hk
        by_cases hlt2 : d < 32
        · have g1 : wr.cell? ⟨w.heap.size, d, none⟩ = some (.int .i64 (lonT L d : Nat)) := by have := hr3.cell (i := d) (by omega); simpa using this
          have g2 : wr.cell? ⟨w.heap.size + 1, d + 1, none⟩ = some (.int .i64 (cntTo L (d + 1) 256)) := hr4.cell (by omega)
          have g3 : wr.frozen? ⟨w.heap.size, d + 1, none⟩ = false := hr3.frozen _
          have g4 : wr.cell? ⟨w.heap.size, d + 1, none⟩ = some (.int .i64 0) := by have := hr3.cell (i := d + 1) (by omega); simpa [show ¬ d + 1 ≤ d from by omega] using this
          have b1 := lonT_le L d
          have b2 := cntTo_le L (d + 1) 256
          go_wp2
          go_region
          go_wp2
          go_roundg (32 - (d + 1))
          case measure => have := hk'.out; omega
          case rel =>
            refine ⟨d + 1, rfl, by omega, by go_num, (hbel.setCell (by simp) _).drew, by simpa using hsz, ((hr3.set (d + 1) _).congr ?_).drew, (hr4.setOther (by simp) _).drew⟩
            intro i hi
            by_cases e : i = d + 1
            · subst e; simp [lonT]
            · rw [if_neg e]
              by_cases e2 : i ≤ d
              · rw [if_pos e2, if_pos (by omega)]
              · rw [if_neg e2, if_neg (by omega)]
        · have hd32 : d = 32 := by omega
          subst hd32
          have b1 := lonT_le L 32
          have hmk := HM.out (lonT L 32) (by omega) (by omega)
          have g1 : wr.cell? ⟨w.heap.size, 32, none⟩ = some (.int .i64 (lonT L 32 : Nat)) := by have := hr3.cell (i := 32) (by omega); simpa using this
          have hr3' : wr.rowIs w.heap.size 25 33 (fun l => .int .i64 (lonT L l : Nat)) := hr3.congr (fun i hi => by rw [if_pos (by omega)])
          clear hr3
          go_upto_region 12 with fail
          go_step
          refine wpList_load_mid rfl 25 _ rfl w.heap.size 0 rfl (lonV L) _ (rangeAt_tab (hr3'.alloc _)) Try.underlying25 rfl (by rw [Try.info25, lonV_length]) ?_
          go_wp2_with (refine wpList_store_row rfl 25 _ _ rfl (w.heap.size + 3) (lonV L).toArray rfl rfl 25 ?qold ?qblk ?qi ?qs ?qone ?_)
          case qblk =>
            rw [show w.heap.size + 3 = (wr.alloc (Obj.cells (madeCells #[Value.int IntKind.u8 0] (lonT L 32)) 5)).heap.size from by simp [hsz]]
            exact heap_alloc_new _ _
          · rw [Try.info25]; simp [lonV_length]
          · simp [lonV_length]
          · exact tab_one (fun _ _ => rfl)
          go_wp2
          go_loopg [42] 256 (fun k i wr => ∃ j : Nat, k = 256 - j ∧ j ≤ 256 ∧ i = .int .i64 j ∧ Below w.heap.size w wr ∧ wr.heap.size = w.heap.size + 4 ∧
            wr.rowIs w.heap.size 25 33 (fun l => .int .i64 (lonT L l : Nat)) ∧
            (∃ O : Nat → Nat, (∀ c, c < j → 1 ≤ L c → O (posT L c) = c) ∧ wr.rowIs (w.heap.size + 2) 5 (lonT L 32) (fun i => .int .u8 (O i : Nat))) ∧
            wr.rowIs (w.heap.size + 3) 25 33 (fun l => .int .i64 (lonT L l + cntTo L (l + 1) j : Nat)))
          case atStart =>
            refine ⟨0, rfl, by omega, rfl, ?_, ?_, ?_, ?_, ?_⟩
            · exact below_setRow ((hbel.alloc (by omega) _).alloc (by simp; omega) _) (by omega) _
            · simp [hsz]
            · exact rowIs_setRow_other ((hr3'.alloc _).alloc _) (by omega) _
            · refine ⟨fun _ => 0, fun c h => by omega, ?_⟩
              refine rowIs_setRow_other (World.rowIs.alloc ?_ _) (by omega) _
              have := World.rowIs_made wr (.int .u8 0) (lonT L 32) 5
              rw [hsz] at this
              exact this
            · refine rowIs_setRow (f := fun _ => .int .i64 0) ?_ _ (by simp [lonV_length]) _ ?_
              · exact rowIs_alloc_at (by simp [hsz]) _ 25 _ (all_get _ _ (by simp))
              · intro i hi
                rw [List.getElem?_toArray]
                unfold lonV
                rw [tab_get hi]
                simp [cntTo]
          case round =>
            clear hbel hsz hr4 hr3' g1 hmk
            obtain ⟨j, hk1, hj1, rfl, hbel, hsz, hr3, ⟨O, hO0, hr2⟩, hr4⟩ := hrel
            have hk2 : Hid _ := hk1
            have hO : Hid _ := hO0
            clear hk1 hk' hO0
            by_cases hlt3 : j < 256
            · have hlj := HB.out j hlt3
              have g1 : wr.cell? ⟨b, j, none⟩ = some (.int .u8 (L j : Int)) := by rw [hbel.cell (p := ⟨b, j, none⟩) hb]; exact HL.out j hlt3
              by_cases hz : L j = 0
              · have hnz : ¬ (0 : Int) < (L j : Int) := by omega
                have hzz : Hid _ := hz
                clear hz
                go_wp2
                go_quiet (fail)
                go_wp2
                go_roundg (256 - (j + 1))
                case measure => have := hk2.out; omega
                case rel =>
                  refine ⟨j + 1, rfl, by omega, by go_num, ?_, ?_, hr3, ⟨O, ?_, hr2⟩, ?_⟩
                  · exact below_drewN hbel _
                  · simpa using hsz
                  · intro c hc h1
                    refine hO.out c ?_ h1
                    have : c ≠ j := by rintro rfl; have := hzz.out; omega
                    omega
                  · refine (rowIs_drewN hr4 _).congr ?_
                    intro i hi
                    have e : cntTo L (i + 1) (j + 1) = cntTo L (i + 1) j := by simp only [cntTo]; rw [if_neg (by have := hzz.out; omega)]; rfl
                    rw [e]
              · obtain ⟨m, hm⟩ : ∃ m, L j = m + 1 := ⟨L j - 1, by omega⟩
                obtain ⟨p, hp0⟩ : ∃ p, p = lonT L m + cntTo L (m + 1) j := ⟨_, rfl⟩
                have hpos : posT L j = p := by rw [hp0]; unfold posT; rw [hm]; rfl
                have hplt : p < lonT L 32 := by rw [← hpos]; exact posT_lt L 32 j hlt3 (by omega) (by omega)
                have hp : Hid _ := hp0
                have hpos' : Hid _ := hpos
                have g2 : wr.cell? ⟨w.heap.size + 2 + 1, m, none⟩ = some (.int .i64 (p : Int)) := by rw [hp0]; exact hr4.cell (by omega)
                have g3 : wr.frozen? ⟨w.heap.size + 2 + 1, m, none⟩ = false := hr4.frozen _
                have g5 : wr.cell? ⟨w.heap.size + 2, p, none⟩ = some (.int .u8 (O p : Int)) := hr2.cell hplt
                have g6 : wr.frozen? ⟨w.heap.size + 2, p, none⟩ = false := hr2.frozen _
                clear hp0 hpos
                go_wp2
                go_quiet (fail)
                go_wp2
                go_roundg (256 - (j + 1))
                case measure => have := hk2.out; omega
                case rel =>
                  refine ⟨j + 1, rfl, by omega, by go_num, ?_, ?_, ?_, ⟨fun i => if i = p then j else O i, ?_, ?_⟩, ?_⟩
                  · exact ((below_drewN hbel _).setCell (by simp) _).setCell (by simp; omega) _
                  · simpa using hsz
                  · exact ((rowIs_drewN hr3 _).setOther (by simp) _).setOther (by simp; omega) _
                  · intro c hc h1
                    show (if posT L c = p then j else O (posT L c)) = c
                    by_cases e : c = j
                    · subst e; rw [if_pos hpos'.out]
                    · have hcp : posT L c ≠ p := by
                        intro h
                        exact e (posT_inj L c j (by omega) h1 hlt3 (by omega) (by rw [h, hpos'.out]))
                      rw [if_neg hcp]
                      exact hO.out c (by omega) h1
                  · refine (((rowIs_drewN hr2 _).set p _).setOther (by simp) _).congr ?_
                    intro i hi
                    by_cases e : i = p
                    · simp [e]
                    · simp [e]
                  · refine (((rowIs_drewN hr4 _).setOther (by simp) _).set m _).congr ?_
                    intro i hi
                    by_cases e : i = m
                    · subst e
                      have e1 : cntTo L (i + 1) (j + 1) = cntTo L (i + 1) j + 1 := by simp only [cntTo]; rw [if_pos hm]
                      rw [if_pos rfl, e1]
                      have := hp.out
                      go_num
                    · have e1 : cntTo L (i + 1) (j + 1) = cntTo L (i + 1) j := by simp only [cntTo]; rw [if_neg (by omega)]; rfl
                      rw [if_neg e, e1]
            · have hj256 : j = 256 := by omega
              subst hj256
              have hrO : wr.rowIs (w.heap.size + 2) 5 (lonT L 32) (fun i => .int .u8 ((ordL L 32).getD i 0 : Nat)) := hr2.congr (fun i hi => by
                rw [ordL_of_pos L 32 O (fun c h1 h2 _ => hO.out c h1 h2) i hi])
              have hrg : wr.rangeAt w.heap.size 0 (lonV L) := rangeAt_tab hr3
              have hi25 : (Try.prog.info? 25).map (·.size) = some (lonV L).length := by rw [Try.info25, lonV_length]
              have ho25 : ∀ v ∈ lonV L, v.oneCell' = true := fun v hv => by obtain ⟨j, _, rfl⟩ := tab_mem hv; rfl
              obtain ⟨c3, hb3, hn3, hc3⟩ := hr3
              have hend : Below w.heap.size w (wr.drew.setRow w.heap.size (lonV L).toArray) := below_setRow hbel.drew (Nat.le_refl _) _
              have hrO' : (wr.drew.setRow w.heap.size (lonV L).toArray).rowIs (w.heap.size + 2) 5 (lonT L 32) (fun i => .int .u8 ((ordL L 32).getD i 0 : Nat)) := rowIs_setRow_other hrO.drew (by omega) _
              have hld : (loadVar 25 ⟨w.heap.size, 0, none⟩).run Try.prog (wr.drew.setRow w.heap.size (lonV L).toArray) = .ok (.agg (lonV L).toArray) (wr.drew.setRow w.heap.size (lonV L).toArray) :=
                run_loadVar_row _ _ 25 25 (lonV L).toArray (0, 0) _ (setRow_heap wr.drew w.heap.size c3 _ 25 _ hb3) Try.underlying25 rfl (by simpa using hi25)
              clear hr2 hr4 hrO
              go_wp2_with fail
              refine wp_region_any (by kernel_rfl) ?_
              change wpAny _ _ _ _ _ _ _ (World.drew _)
              refine wpAny_take (i := 0) (v := .slice (some ⟨w.heap.size + 2, 0, none⟩) (lonT L 32) (lonT L 32)) rfl (by kernel_rfl) (by kernel_rfl) (by kernel_rfl) (fun _ _ _ h => h) (Or.inl ⟨by rfl, fun w => rfl⟩) ?_
              refine wpAny_take (i := 2) (v := .slice (some ⟨w.heap.size + 2, 0, none⟩) (lonT L 32) (lonT L 32)) rfl (by kernel_rfl) (by kernel_rfl) (by kernel_rfl) (fun _ _ _ h => h) (Or.inl ⟨by rfl, fun w => rfl⟩) ?_
              refine wpAny_ready (rs := [1]) (by kernel_rfl) (by simp) ?_
              refine AllReady.cons rfl (fun K hK => ?_) AllReady.nil
              rw [if_pos (by rfl)]
              refine wp_load_mid 25 _ rfl w.heap.size 0 rfl (lonV L) _ ((World.rangeAt_drew _ _ _ _).2 hrg) Try.underlying25 rfl hi25 ?_
              refine hK _ _ ?_
              clear hK K
              refine wpAny_ready (rs := [3]) (by kernel_rfl) (by simp) ?_
              refine AllReady.cons rfl (fun K hK => ?_) AllReady.nil
              rw [if_pos (by rfl)]
              refine wp_store_row 25 _ _ rfl w.heap.size (lonV L).toArray rfl rfl 25 c3 hb3 (by simpa using hi25) (by simp [hn3, lonV_length]) (all_oneCell_toArray ho25) ?_
              refine hK _ _ ?_
              clear hK K
              refine wpAny_done (by kernel_rfl) ?_ _
              simp only [Act.put, List.getElem_toArray, List.getElem_cons_succ, List.getElem_cons_zero, List.setIfInBounds_toArray, List.set_cons_succ, List.set_cons_zero]
              go_wp2_with fail
              refine bodyPost_ret (results_tmp_cell rfl _ _ w.heap.size _ rfl hld) rfl ?_
              exact ⟨w.heap.size + 2, rfl, by omega, hrO', hend⟩
end Go.Proofs.Qxb6602643a
