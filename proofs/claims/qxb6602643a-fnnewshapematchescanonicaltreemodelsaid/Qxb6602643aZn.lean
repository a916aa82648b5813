/- ZZNewShape, walked. -/
import Derived.Test.Qxb6602643aZr
namespace Go.Proofs.Qxb6602643a
open Go.RowKit
set_option linter.unusedVariables false

def pthV (L : Nat → Nat) (PB : Nat) : List Value := tab 256 (pthT L PB (lonT L 32))
def codV (L : Nat → Nat) : List Value := tab 256 (fun c => .int .u64 (codT L (lonT L 32) c : Nat))
theorem pthV_length (L : Nat → Nat) (PB : Nat) : (pthV L PB).length = 256 := tab_length _ _
theorem codV_length (L : Nat → Nat) : (codV L).length = 256 := tab_length _ _

/-- WHAT ZZNewShape LEAVES -/
def ZnPost (L C : Nat → Nat) (w : World) (e : Ending) (w' : World) : Prop :=
  ∃ zb cap PB F ch, e = .returned (.tuple #[.slice (some ⟨zb, 0, none⟩) (NB L 32) cap, .agg (pthV L PB).toArray, .agg (codV L).toArray]) ∧
    Below w.heap.size w w' ∧ w.heap.size ≤ zb ∧ w.heap.size ≤ PB ∧ rowPre w' zb 53 (NB L 32 * 9) (ndF (depN L) (stG L C) (lnG L C (lonT L 32) 0) (onG L C (lonT L 32) 0) ch) ∧
    w'.rowIs PB 21 (offT L (lonT L 32)) (fun x => .int .i32 (F x : Nat)) ∧ PI L 32 0 F ∧ CH L (lonT L 32) 0 ch

set_option maxRecDepth 100000 in
set_option maxHeartbeats 4000000 in
theorem zzNewShape_any (w : World) (cb lb : Nat) (C L : Nat → Nat) (hcb : cb < w.heap.size) (hlb : lb < w.heap.size)
    (hC : ∀ i, i < 256 → w.cell? ⟨cb, i, none⟩ = some (.int .u64 (C i : Int))) (hC64 : ∀ i, i < 256 → C i < 18446744073709551616)
    (hL : ∀ i, i < 256 → w.cell? ⟨lb, i, none⟩ = some (.int .u8 (L i : Int))) (hm : ∀ i, i < 256 → L i ≤ 32) (hK : SK L (lonT L 32) ≤ 2 ^ 32) :
    Calls Try.prog 15 #[.pointer (some ⟨cb, 0, none⟩), .pointer (some ⟨lb, 0, none⟩)] w (ZnPost L C w) := by
  have HC : Hid _ := hC
  have HC64 : Hid _ := hC64
  have HL : Hid _ := hL
  have HB : Hid _ := hm
  have HK : Hid _ := hK
  clear hC hC64 hL hm hK
  obtain ⟨i53, hi53, hz53, hs53, hb53⟩ := info_parts Try.info53
  have HI53 : Hid _ := And.intro hi53 (And.intro hz53 (And.intro hs53 hb53))
  clear hi53 hz53 hs53 hb53
  have bT := NB_le L 32
  go_enter Try.func15, Try.ntmps15
  go_wp2_with (first | refine wpList_alloc rfl 41 rfl _ Try.zero41 ?_ | refine wpList_alloc rfl 38 rfl _ Try.zero38 ?_)
  have r5 : (w.alloc (.cells (Array.replicate 256 (.slice none 0 0)) 41)).rowIs w.heap.size 41 256 (fun _ => .slice none 0 0) := ⟨_, heap_alloc_new _ _, by simp, fun i hi => by simp [hi]⟩
  have r5' := r5.alloc (.cells (Array.replicate 256 (.int .u64 0)) 38)
  have r6 : ((w.alloc (.cells (Array.replicate 256 (.slice none 0 0)) 41)).alloc (.cells (Array.replicate 256 (.int .u64 0)) 38)).rowIs (w.heap.size + 1) 38 256 (fun _ => .int .u64 0) := ⟨_, by rw [show w.heap.size + 1 = (w.alloc (.cells (Array.replicate 256 (.slice none 0 0)) 41)).heap.size from by simp]; exact heap_alloc_new _ _, by simp, fun i hi => by simp [hi]⟩
  have rb : Below w.heap.size w ((w.alloc (.cells (Array.replicate 256 (.slice none 0 0)) 41)).alloc (.cells (Array.replicate 256 (.int .u64 0)) 38)) := ((Below.refl _ _).alloc (Nat.le_refl _) _).alloc (by simp) _
  have rs : ((w.alloc (.cells (Array.replicate 256 (.slice none 0 0)) 41)).alloc (.cells (Array.replicate 256 (.int .u64 0)) 38)).heap.size = w.heap.size + 2 := by simp
  clear r5
  generalize (w.alloc (.cells (Array.replicate 256 (.slice none 0 0)) 41)).alloc (.cells (Array.replicate 256 (.int .u64 0)) 38) = wA at *
  refine (newShape_any wA cb lb C L (by omega) (by omega) ?_ HC64.out ?_ HB.out HK.out).mono ?_
  · intro i hi; rw [rb.cell (p := ⟨cb, i, none⟩) hcb]; exact HC.out i hi
  · intro i hi; rw [rb.cell (p := ⟨lb, i, none⟩) hlb]; exact HL.out i hi
  rintro e w1 ⟨rfl, g, M, nb, cap, F, ch, hD, hCH⟩
  have HCH : Hid _ := hCH
  clear hCH
  have x1 := hD.B.hg
  have x2 := hD.B.hgM
  have x3 := hD.hnb
  have x4 := hD.nd.lt
  have g0 := hD.nodes0
  rw [rs] at x1 g0 ⊢
  have hx := hD.B.bel
  have q5 : w1.rowIs w.heap.size 41 256 (fun _ => .slice none 0 0) := r5'.of_block (hx.block _ (by omega))
  have q6 : w1.rowIs (w.heap.size + 1) 38 256 (fun _ => .int .u64 0) := r6.of_block (hx.block _ (by omega))
  have hbw : Below w.heap.size w w1 := rb.trans (hx.mono (by omega))
  clear r5' r6 rb hx
  go_wp2_with (first | (at_make; refine wpList_make_full _ rfl _ _ 39 rfl w1.heap.size 53 i53 _ 9 Try.underlying39 HI53.out.1 HI53.out.2.1 HI53.out.2.2.1 _ _ _ _ (NB L 32) rfl rfl rfl rfl ?mb ?ml ?mbase ?_))
  case mb => rw [HI53.out.2.2.2]; omega
  case ml => unfold maxLen; omega
  case mbase => exact Nat.le_refl _
  intro W2 hown hgr
  obtain ⟨Z, hz⟩ := rowPre_own hown
  have hb2 : Below w1.heap.size w1 W2 := (Below.refl _ _).grown hgr (Nat.le_refl _) (fun k h => by cases h)
  clear hown hgr
  go_wp2_with fail
  go_loopg [9] (NB L 32) (fun k s9 wx => ∃ j : Nat, k = NB L 32 - j ∧ j ≤ NB L 32 ∧ s9 = .int .i64 j ∧ Below w1.heap.size w1 wx ∧ rowPre wx w1.heap.size 53 (NB L 32 * 9) (fun x => if x < j * 9 then ndF (depN L) (stG L C) (lnG L C (lonT L 32) 0) (onG L C (lonT L 32) 0) ch x else Z x))
  case atStart => exact ⟨0, rfl, by omega, rfl, hb2, hz.congr (fun i _ => by simp)⟩
  case round =>
    clear hb2 hz
    obtain ⟨j, hk0, hj, rfl, hbx, hz⟩ := hrel
    have hk : Hid _ := hk0
    clear hk0
    have h0 : wr.cell? ⟨w.heap.size + 2, 0, none⟩ = some (.slice (some ⟨nb, 0, none⟩) (NB L 32) cap) := by rw [hbx.cell (p := ⟨w.heap.size + 2, 0, none⟩) (by simp; omega)]; exact g0
    by_cases hlt : j < NB L 32
    · have hltI : (j : Int) < (NB L 32 : Int) := by omega
      have hnode : ∀ i, i < 9 → wr.cell? ⟨nb, j * 9 + i, none⟩ = some (ndC (stG L C j) (lnG L C (lonT L 32) 0 j) (onG L C (lonT L 32) 0 j) (depN L j) (ch j 0) (ch j 1) i) := fun i hi => by
        rw [hbx.cell (p := ⟨nb, j * 9 + i, none⟩) (by simp; omega)]; exact hD.node hlt hi
      have hsz := hbx.size
      have hb53 := run_b53
      have NDF : Hid (∀ i, i < 9 → ndF (depN L) (stG L C) (lnG L C (lonT L 32) 0) (onG L C (lonT L 32) 0) ch (j * 9 + i) = ndC (stG L C j) (lnG L C (lonT L 32) 0 j) (onG L C (lonT L 32) 0 j) (depN L j) (ch j 0) (ch j 1) i) := fun i hi => ndF_at _ _ _ _ _ _ _ hi
      generalize stG L C j = e0 at *
      generalize lnG L C (lonT L 32) 0 j = e1 at *
      generalize onG L C (lonT L 32) 0 j = e2 at *
      generalize depN L j = e4 at *
      generalize ch j 0 = e5 at *
      generalize ch j 1 = e6 at *
      have hr : wr.rangeAt nb (j * 9) (ndL e0 e1 e2 e4 e5 e6) := fun i v hv => by
        have hi : i < 9 := by have := (List.getElem?_eq_some_iff.1 hv).1; simpa [ndL] using this
        rw [ndL_get _ _ _ _ _ _ i hi] at hv
        rw [hnode i hi, hv]
      clear hnode
      go_upto_region 7 with (first | refine wpList_load_mid rfl 67 _ rfl nb (j * 9) rfl (ndL e0 e1 e2 e4 e5 e6) _ hr Try.underlying67 rfl Try.size67 ?_ | refine wpList_alloc rfl 67 rfl _ Try.zero67 ?_ | refine wpList_store_row rfl 67 _ _ rfl wr.heap.size (ndL e0 e1 e2 e4 e5 e6).toArray rfl rfl 67 (nodeA 0) ?pblk ?pi ?ps ?pone ?_)
      case pblk => exact heap_alloc_new _ _
      case pi => exact Try.size67
      case ps => rfl
      case pone => exact all_oneCell_toArray (ndL_one _ _ _ _ _ _)
      have hc : ∀ i, i < 9 → ((wr.alloc (Obj.cells (nodeA 0) 67)).setRow wr.heap.size (ndL e0 e1 e2 e4 e5 e6).toArray).cell? ⟨wr.heap.size, i, none⟩ = some (ndC e0 e1 e2 e4 e5 e6 i) := fun i hi => by
        rw [cell_setRow_same _ _ _ _ _ _ _ (heap_alloc_new _ _), List.getElem?_toArray, ndL_get _ _ _ _ _ _ i hi]
      have hb3 := below_setRow (hbx.alloc hsz (Obj.cells (nodeA 0) 67)) hsz (ndL e0 e1 e2 e4 e5 e6).toArray
      have hz3 : rowPre ((wr.alloc (Obj.cells (nodeA 0) 67)).setRow wr.heap.size (ndL e0 e1 e2 e4 e5 e6).toArray) w1.heap.size 53 (NB L 32 * 9) _ := (hz.alloc (Obj.cells (nodeA 0) 67)).of_block (setRow_other _ _ _ _ (by have := hz.lt; omega))
      have hne := hz.lt
      clear hz hbx hr
      generalize hSz : wr.heap.size = S at *
      generalize (wr.alloc (Obj.cells (nodeA 0) 67)).setRow S (ndL e0 e1 e2 e4 e5 e6).toArray = W3 at *
      have c0 := hc 0 (by omega)
      have c1 := hc 1 (by omega)
      have c2 := hc 2 (by omega)
      have c3 := hc 3 (by omega)
      have c4 := hc 4 (by omega)
      have c5 := hc 5 (by omega)
      have c6 := hc 6 (by omega)
      have c7 := hc 7 (by omega)
      have c8 := hc 8 (by omega)
      simp only [ndC] at c0 c1 c2 c3 c4 c5 c6 c7 c8
      have hth := there_rowPre hz3 (j * 9) 9 (by omega)
      clear hc
      go_upto_region 5 with (first | refine wpList_store_mid rfl 53 _ _ rfl w1.heap.size (j * 9) (ndL e0 e1 e2 e4 e5 e6).toArray rfl rfl hth Try.size53 (all_oneCell_toArray (ndL_one _ _ _ _ _ _)) ?_)
      go_wp2_with fail
      go_roundg (NB L 32 - (j + 1))
      case measure => have := hk.out; omega
      case rel =>
        refine ⟨j + 1, rfl, by omega, by go_num, below_setCells _ (Nat.le_refl _) _ _ _ hb3, (rowPre_setCells _ _ _ _ _ _ _ hz3).congr ?_⟩
        intro i hi
        have hlen : (ndL e0 e1 e2 e4 e5 e6).length = 9 := rfl
        rw [hlen]
        by_cases h1 : j * 9 ≤ i ∧ i < j * 9 + 9
        · rw [if_pos h1, if_pos (by omega)]
          have hx := NDF.out (i - j * 9) (by omega)
          rw [show j * 9 + (i - j * 9) = i from by omega] at hx
          rw [hx, List.getD_eq_getElem?_getD, ndL_get _ _ _ _ _ _ _ (by omega)]
          rfl
        · rw [if_neg h1]
          by_cases h2 : i < j * 9
          · rw [if_pos h2, if_pos (by omega)]
          · rw [if_neg h2, if_neg (by omega)]
    · have hltI : ¬ (j : Int) < (NB L 32 : Int) := by omega
      have hj' : j = NB L 32 := by omega
      have hi41 : (Try.prog.info? 41).map (·.size) = some (pthV L (M + 1)).length := by rw [Try.size41, pthV_length]
      have hi38 : (Try.prog.info? 38).map (·.size) = some (codV L).length := by rw [Try.size38, codV_length]
      have ho41 : ∀ v ∈ pthV L (M + 1), v.oneCell' = true := fun v hv => by obtain ⟨j, _, rfl⟩ := tab_mem hv; unfold pthT; split <;> rfl
      have ho38 : ∀ v ∈ codV L, v.oneCell' = true := fun v hv => by obtain ⟨j, _, rfl⟩ := tab_mem hv; rfl
      have hsh : wr.rowIs (w.heap.size + 2) 65 513 _ := (by have := hD.sh; rw [rs] at this; exact this.of_block (hbx.block _ (by omega)))
      have hr1 : wr.rangeAt (w.heap.size + 2) 1 (pthV L (M + 1)) := rangeAt_rowIs hsh 1 256 (by omega) _ (fun j hj => shF_path _ _ _ _ hj)
      have hr2 : wr.rangeAt (w.heap.size + 2) 257 (codV L) := rangeAt_rowIs hsh 257 256 (by omega) _ (fun j hj => shF_code _ _ _ _)
      have q5' : wr.rowIs w.heap.size 41 256 (fun _ => .slice none 0 0) := q5.of_block (hbx.block _ (by omega))
      have q6' : wr.rowIs (w.heap.size + 1) 38 256 (fun _ => .int .u64 0) := q6.of_block (hbx.block _ (by omega))
      obtain ⟨c5, hb5, hn5, _⟩ := q5'
      obtain ⟨c6, hb6, hn6, _⟩ := q6'
      have hPB : wr.rowIs (M + 1) 21 (offT L (lonT L 32)) (fun x => .int .i32 (F x : Nat)) := hD.pb.of_block (hbx.block _ (by omega))
      have hend : ZnPost L C w (.returned (.tuple #[.slice (some ⟨w1.heap.size, 0, none⟩) (NB L 32) (NB L 32), .agg (pthV L (M + 1)).toArray, .agg (codV L).toArray])) ((wr.drew.setRow w.heap.size (pthV L (M + 1)).toArray).setRow (w.heap.size + 1) (codV L).toArray) := by
        refine ⟨w1.heap.size, _, M + 1, F, ch, rfl, ?_, by omega, by omega, ?_, ?_, hD.pi, HCH.out⟩
        · exact below_setRow (below_setRow (hbw.trans (hbx.mono (by omega))).drew (Nat.le_refl _) _) (by omega) _
        · refine ((hz.congr (fun i hi => ?_)).drew.of_block (setRow_other _ _ _ _ (by omega))).of_block (setRow_other _ _ _ _ (by omega))
          rw [if_pos (by rw [hj']; exact hi)]
        · exact rowIs_setRow_other (rowIs_setRow_other hPB.drew (by omega) _) (by omega) _
      have HEND : Hid _ := hend
      clear hend hPB
      go_upto_if 26 with fail
      go_step
      go_step
      go_step
      go_step
      exact zn_ret hi41 hi38 ho41 ho38 hr1 hr2 hb5 (by rw [hn5, pthV_length]) hb6 (by rw [hn6, codV_length]) (by omega) (by omega) (by omega) HEND.out
end Go.Proofs.Qxb6602643a
