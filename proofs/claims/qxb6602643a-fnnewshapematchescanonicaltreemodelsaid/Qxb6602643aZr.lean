/- ZZNewShape's return. -/
import Derived.Test.Qxb6602643aZnKit
import Derived.Deep.RegionHeld
namespace Go.Proofs.Qxb6602643a
open Go.RowKit
set_option linter.unusedVariables false

/-- three results: a slot, and two whole arrays in memory -/
theorem results_tmp_cell2 {P : Program} {fn : Func} {u p q : Tmp} {ty tz : TypeId} (h : fn.results = #[.tmp u, .cell p ty, .cell q tz]) (tmps : Array Value) (w : World) (a b : Nat) (v1 v2 : Value)
    (hp : tmps.getD p undef = .pointer (some ⟨a, 0, none⟩)) (hl : (loadVar ty ⟨a, 0, none⟩).run P w = .ok v1 w)
    (hq : tmps.getD q undef = .pointer (some ⟨b, 0, none⟩)) (hm : (loadVar tz ⟨b, 0, none⟩).run P w = .ok v2 w) :
    (results fn tmps).run P w = .ok (.tuple #[tmps.getD u undef, v1, v2]) w := by
  have hp' : tmps[p]?.getD undef = .pointer (some ⟨a, 0, none⟩) := by simpa using hp
  have hq' : tmps[q]?.getD undef = .pointer (some ⟨b, 0, none⟩) := by simpa using hq
  simp [results, h, hp', hq', asAddr, hl, hm]

set_option maxRecDepth 100000 in
set_option maxHeartbeats 2000000 in
theorem zn_ret {wr : World} {B5 B6 SB zb T : Nat} {ps cs : List Value} {c5 c6 : Array Value} {R : Ending → World → Prop}
    (hi41 : (Try.prog.info? 41).map (·.size) = some ps.length) (hi38 : (Try.prog.info? 38).map (·.size) = some cs.length)
    (ho41 : ∀ v ∈ ps, v.oneCell' = true) (ho38 : ∀ v ∈ cs, v.oneCell' = true)
    (hr1 : wr.rangeAt SB 1 ps) (hr2 : wr.rangeAt SB 257 cs)
    (hb5 : wr.heap[B5]? = some (.cells c5 41 (0, 0))) (hn5 : c5.size = ps.length) (hb6 : wr.heap[B6]? = some (.cells c6 38 (0, 0))) (hn6 : c6.size = cs.length)
    (h56 : B5 ≠ B6) (h5 : B5 ≠ SB) (h6 : B6 ≠ SB)
    (hR : R (.returned (.tuple #[.slice (some ⟨zb, 0, none⟩) T T, .agg ps.toArray, .agg cs.toArray])) ((wr.drew.setRow B5 ps.toArray).setRow B6 cs.toArray))
    {u0 u1 u2 u3 u4 u9 u10 u11 u12 u13 u14 u15 u16 u17 u18 u19 u20 u21 u22 u23 u24 u25 u26 u27 u28 u29 u30 u31 u32 u33 u34 u35 u36 u37 u38 u39 u40 u41 u42 u43 u44 u45 u46 u47 u48 u49 u50 u51 u52 u53 u54 u55 u56 u57 u58 u59 u60 u61 u62 u63 u64 : Value} :
    Code.wp Try.prog (tailC 4 (Try.f15.body.getD .skip)) (bodyPost Try.prog Try.f15 R) ⟨#[u0, u1, u2, u3, u4, .pointer (some ⟨B5, 0, none⟩), .pointer (some ⟨B6, 0, none⟩), .pointer (some ⟨SB, 0, none⟩), .slice (some ⟨zb, 0, none⟩) T T, u9, u10, u11, u12, u13, u14, u15, u16, u17, u18, u19, u20, u21, u22, u23, u24, u25, u26, u27, u28, u29, u30, u31, u32, u33, u34, u35, u36, u37, u38, u39, u40, u41, u42, u43, u44, u45, u46, u47, u48, u49, u50, u51, u52, u53, u54, u55, u56, u57, u58, u59, u60, u61, u62, u63, u64], []⟩ wr := by
  have hS : (fun w' : World => w'.rangeAt SB 1 ps ∧ w'.rangeAt SB 257 cs) wr.drew := ⟨(World.rangeAt_drew _ _ _ _).2 hr1, (World.rangeAt_drew _ _ _ _).2 hr2⟩
  conv => arg 2; whnf
  apply wp_seq_k
  intro K hK
  refine wp_region_held_drew (S := fun w' : World => w'.rangeAt SB 1 ps ∧ w'.rangeAt SB 257 cs) (by kernel_rfl) hS (fun _ => ?_)
  refine wpAnyH_take (i := 0) (v := .slice (some ⟨zb, 0, none⟩) T T) rfl (by kernel_rfl) (by kernel_rfl) (by kernel_rfl) (fun _ _ _ h => h) (Or.inl ⟨by rfl, fun _ _ => by kernel_rfl⟩) hS ?_
  show wpAnyH _ _ _ _ _ _ _ (Act.put _ (some 56) _) _
  simp only [Act.put, List.setIfInBounds_toArray, List.set_cons_succ, List.set_cons_zero]
  refine wpAnyH_take (i := 1) (v := .pointer (some ⟨SB, 0, none⟩)) rfl (by kernel_rfl) (by kernel_rfl) (by kernel_rfl) (fun _ _ _ h => h) (Or.inl ⟨by rfl, fun _ _ => by kernel_rfl⟩) hS ?_
  show wpAnyH _ _ _ _ _ _ _ (Act.put _ (some 57) _) _
  simp only [Act.put, List.setIfInBounds_toArray, List.set_cons_succ, List.set_cons_zero]
  refine wpAnyH_take (i := 2) (v := .pointer (some ⟨SB, 0, none⟩)) rfl (by kernel_rfl) (by kernel_rfl) (by kernel_rfl) (fun _ _ _ h => h) (Or.inl ⟨by rfl, fun _ _ => by kernel_rfl⟩) hS ?_
  show wpAnyH _ _ _ _ _ _ _ (Act.put _ (some 58) _) _
  simp only [Act.put, List.setIfInBounds_toArray, List.set_cons_succ, List.set_cons_zero]
  refine wpAnyH_take (i := 3) (v := .pointer (some ⟨SB, 1, none⟩)) rfl (by kernel_rfl) (by kernel_rfl) (by kernel_rfl) (fun _ _ _ h => h) (Or.inl ⟨by rfl, fun _ _ => by kernel_rfl⟩) hS ?_
  show wpAnyH _ _ _ _ _ _ _ (Act.put _ (some 59) _) _
  simp only [Act.put, List.setIfInBounds_toArray, List.set_cons_succ, List.set_cons_zero]
  refine wpAnyH_take (i := 4) (v := .agg (ps).toArray) rfl (by kernel_rfl) (by kernel_rfl) (by kernel_rfl) (fun _ _ _ h => h) (yieldsIf_load_mid (by rfl) 41 _ rfl SB 1 (by simp [Act.eval]) (ps) _ (fun _ h => h.1) Try.underlying41 rfl hi41) hS ?_
  show wpAnyH _ _ _ _ _ _ _ (Act.put _ (some 60) _) _
  simp only [Act.put, List.setIfInBounds_toArray, List.set_cons_succ, List.set_cons_zero]
  refine wpAnyH_take (i := 5) (v := .pointer (some ⟨SB, 0, none⟩)) rfl (by kernel_rfl) (by kernel_rfl) (by kernel_rfl) (fun _ _ _ h => h) (Or.inl ⟨by rfl, fun _ _ => by kernel_rfl⟩) hS ?_
  show wpAnyH _ _ _ _ _ _ _ (Act.put _ (some 61) _) _
  simp only [Act.put, List.setIfInBounds_toArray, List.set_cons_succ, List.set_cons_zero]
  refine wpAnyH_take (i := 6) (v := .pointer (some ⟨SB, 0, none⟩)) rfl (by kernel_rfl) (by kernel_rfl) (by kernel_rfl) (fun _ _ _ h => h) (Or.inl ⟨by rfl, fun _ _ => by kernel_rfl⟩) hS ?_
  show wpAnyH _ _ _ _ _ _ _ (Act.put _ (some 62) _) _
  simp only [Act.put, List.setIfInBounds_toArray, List.set_cons_succ, List.set_cons_zero]
  refine wpAnyH_take (i := 7) (v := .pointer (some ⟨SB, 257, none⟩)) rfl (by kernel_rfl) (by kernel_rfl) (by kernel_rfl) (fun _ _ _ h => h) (Or.inl ⟨by rfl, fun _ _ => by kernel_rfl⟩) hS ?_
  show wpAnyH _ _ _ _ _ _ _ (Act.put _ (some 63) _) _
  simp only [Act.put, List.setIfInBounds_toArray, List.set_cons_succ, List.set_cons_zero]
  refine wpAnyH_take (i := 8) (v := .agg (cs).toArray) rfl (by kernel_rfl) (by kernel_rfl) (by kernel_rfl) (fun _ _ _ h => h) (yieldsIf_load_mid (by rfl) 38 _ rfl SB 257 (by simp [Act.eval]) (cs) _ (fun _ h => h.2) Try.underlying38 rfl hi38) hS ?_
  show wpAnyH _ _ _ _ _ _ _ (Act.put _ (some 64) _) _
  simp only [Act.put, List.setIfInBounds_toArray, List.set_cons_succ, List.set_cons_zero]
  refine wpAnyH_take (i := 9) (v := .slice (some ⟨zb, 0, none⟩) T T) rfl (by kernel_rfl) (by kernel_rfl) (by kernel_rfl) (fun _ _ _ h => h) (Or.inl ⟨by rfl, fun _ _ => by kernel_rfl⟩) hS ?_
  show wpAnyH _ _ _ _ _ _ _ (Act.put _ (some 4) _) _
  simp only [Act.put, List.setIfInBounds_toArray, List.set_cons_succ, List.set_cons_zero]
  refine wpAnyH_ready (rs := [10]) (by kernel_rfl) (by simp) ?_
  refine AllReadyH.cons rfl (fun K' hK' => ?_) AllReadyH.nil
  rw [if_pos (by rfl)]
  refine wp_store_row 41 _ _ rfl B5 ps.toArray (by simp [Act.eval]) (by simp [Act.eval]) 41 c5 hb5 (by simpa using hi41) (by simpa using hn5) (all_oneCell_toArray ho41) ?_
  have hS2 : (fun w' : World => w'.rangeAt SB 1 ps ∧ w'.rangeAt SB 257 cs) (wr.drew.setRow B5 ps.toArray) :=
    ⟨fun j v hv => by rw [cell_setRow_other _ _ _ _ (fun e => h5 e.symm)]; exact hr1 j v hv, fun j v hv => by rw [cell_setRow_other _ _ _ _ (fun e => h5 e.symm)]; exact hr2 j v hv⟩
  refine hK'.out _ _ hS2 (fun _ => ?_)
  clear hK' K'
  show wpAnyH _ _ _ _ _ _ _ (Act.put _ none _) _
  simp only [Act.put]
  refine wpAnyH_ready (rs := [11]) (by kernel_rfl) (by simp) ?_
  refine AllReadyH.cons rfl (fun K' hK' => ?_) AllReadyH.nil
  rw [if_pos (by rfl)]
  have hb6' : (wr.drew.setRow B5 ps.toArray).heap[B6]? = some (.cells c6 38 (0, 0)) := by rw [setRow_other _ _ _ _ (fun e => h56 e.symm)]; exact hb6
  refine wp_store_row 38 _ _ rfl B6 cs.toArray (by simp [Act.eval]) (by simp [Act.eval]) 38 c6 hb6' (by simpa using hi38) (by simpa using hn6) (all_oneCell_toArray ho38) ?_
  have hS3 : (fun w' : World => w'.rangeAt SB 1 ps ∧ w'.rangeAt SB 257 cs) ((wr.drew.setRow B5 ps.toArray).setRow B6 cs.toArray) :=
    ⟨fun j v hv => by rw [cell_setRow_other _ _ _ _ (fun e => h6 e.symm)]; exact hS2.1 j v hv, fun j v hv => by rw [cell_setRow_other _ _ _ _ (fun e => h6 e.symm)]; exact hS2.2 j v hv⟩
  refine hK'.out _ _ hS3 (fun _ => ?_)
  clear hK' K'
  show wpAnyH _ _ _ _ _ _ _ (Act.put _ none _) _
  simp only [Act.put]
  refine wpAnyH_done (by kernel_rfl) ?_ _
  refine hK _ _ ?_
  clear hK K
  refine wp_ret ?_
  have l5 : (loadVar 41 ⟨B5, 0, none⟩).run Try.prog ((wr.drew.setRow B5 ps.toArray).setRow B6 cs.toArray) = .ok (.agg ps.toArray) ((wr.drew.setRow B5 ps.toArray).setRow B6 cs.toArray) :=
    run_loadVar_row _ _ 41 41 ps.toArray (0, 0) _ (by rw [setRow_other _ _ _ _ h56]; exact setRow_heap wr.drew B5 c5 _ 41 _ hb5) Try.underlying41 rfl (by simpa using hi41)
  have l6 : (loadVar 38 ⟨B6, 0, none⟩).run Try.prog ((wr.drew.setRow B5 ps.toArray).setRow B6 cs.toArray) = .ok (.agg cs.toArray) ((wr.drew.setRow B5 ps.toArray).setRow B6 cs.toArray) :=
    run_loadVar_row _ _ 38 38 cs.toArray (0, 0) _ (setRow_heap _ B6 c6 _ 38 _ hb6') Try.underlying38 rfl (by simpa using hi38)
  refine bodyPost_ret (results_tmp_cell2 rfl _ _ B5 B6 _ _ rfl l5 rfl l6) rfl ?_
  simpa using hR
end Go.Proofs.Qxb6602643a
