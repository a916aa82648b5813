/- newShape's nodes: laws on worlds and lists for the third and later phases. -/
import Derived.Test.Qxb6602643aNsKit
namespace Go.Proofs.Qxb6602643a
open Go.RowKit

theorem Try.info67 : (Try.prog.info? 67).map (fun i => (i.zero, i.size, i.bytes)) = some (some (.agg #[.int .u64 0, .int .u64 0, .int .u64 0, .int .u64 0, .int .i64 0, .int .i32 0, .int .i32 0, .int .u32 0, .int .u32 0]), 9, 56) := by kernel_rfl
def nodeA (d : Int) : Array Value := #[.int .u64 0, .int .u64 0, .int .u64 0, .int .u64 0, .int .i64 d, .int .i32 0, .int .i32 0, .int .u32 0, .int .u32 0]
theorem run_bs67 (d : Int) (w : World) : (Instr.buildSlice 63 1 #[(0, .agg (nodeA d))]).run Try.prog w = .ok (.slice (some ⟨w.heap.size, 0, none⟩) 1 1) (w.alloc (.cells (nodeA d) 67)) := by kernel_rfl
theorem run_b67 (d : Int) (w : World) : (Instr.build 67 #[(4, .int .i64 d)]).run Try.prog w = .ok (.agg (nodeA d)) w := by kernel_rfl

/-- the cells of nodes of which only the depths are set -/
def nodeCells (ds : List Nat) : List Value := ds.flatMap fun (d : Nat) => (nodeA (d : Int)).toList
theorem nodeCells_append (a b : List Nat) : nodeCells (a ++ b) = nodeCells a ++ nodeCells b := by simp [nodeCells]
theorem nodeCells_one (d : Nat) : nodeCells [d] = (nodeA (d : Int)).toList := by simp [nodeCells]
theorem nodeA_one (d : Int) : ∀ u ∈ (nodeA d).toList, u.oneCell' = true := by
  intro u hu
  simp only [nodeA, List.mem_cons, List.not_mem_nil, or_false] at hu
  rcases hu with rfl | rfl | rfl | rfl | rfl | rfl | rfl | rfl | rfl <;> rfl
theorem nodeA_news (w : World) (d : Int) (t : TypeId) : ∀ j u, (nodeA d).toList[j]? = some u → (w.alloc (.cells (nodeA d) t)).cell? ((⟨w.heap.size, 0, none⟩ : Addr).add j) = some u := by
  intro j u hu
  rw [Addr.add_mid, Nat.zero_add, World.cell?_alloc_new]
  simpa using hu

/-- the depths of the nodes ahead of depth d -/
def dl (L : Nat → Nat) : Nat → List Nat
  | 0 => []
  | d + 1 => dl L d ++ List.replicate (NN L d) d
theorem dl_length (L : Nat → Nat) (d : Nat) : (dl L d).length = NB L d := by
  induction d with
  | zero => rfl
  | succ d ih => simp only [dl, NB, List.length_append, ih, List.length_replicate]
/-- the depths of the nodes behind m positions of depth d -/
def dlm (L : Nat → Nat) (d m : Nat) : List Nat := dl L d ++ List.replicate (cntN L d m) d
theorem dlm_length (L : Nat → Nat) (d m : Nat) : (dlm L d m).length = NB L d + cntN L d m := by simp [dlm, dl_length]
theorem dlm_zero (L : Nat → Nat) (d : Nat) : dlm L d 0 = dl L d := by simp [dlm, cntN]
theorem dlm_push (L : Nat → Nat) (d m : Nat) (h : cntN L d (m + 1) = cntN L d m + 1) : dlm L d (m + 1) = dlm L d m ++ [d] := by
  simp [dlm, h, List.replicate_succ']
theorem dlm_same (L : Nat → Nat) (d m : Nat) (h : cntN L d (m + 1) = cntN L d m) : dlm L d (m + 1) = dlm L d m := by
  simp [dlm, h]
theorem dlm_all (L : Nat → Nat) (d : Nat) (h : lonT L d ≤ lonT L 32) : dlm L d (lonT L 32 - lonT L d) = dl L (d + 1) := by
  simp [dlm, dl, cntN_all L d h]
theorem dl_get (L : Nat → Nat) (m d k : Nat) (hd : d < m) (h1 : NB L d ≤ k) (h2 : k < NB L (d + 1)) : (dl L m)[k]? = some d := by
  induction m with
  | zero => omega
  | succ m ih =>
    simp only [dl]
    by_cases e : d = m
    · subst e
      rw [List.getElem?_append_right (by rw [dl_length]; exact h1), dl_length]
      simp only [NB] at h2
      simp [show k - NB L d < NN L d from by omega]
    · have := NB_mono L (d + 1) m (by omega)
      rw [List.getElem?_append_left (by rw [dl_length]; omega)]
      exact ih (by omega)

/-- the ids that have been laid into the paths: all of the depths below d, and the first m positions of depth d -/
def PI (L : Nat → Nat) (d m : Nat) (F : Nat → Nat) : Prop := ∀ q e, q < lonT L 32 → e < ol L q → (e < d ∨ (e = d ∧ q < lonT L d + m)) → F (offT L q + e) = idN L q e

theorem off_lt (L : Nat → Nat) (q e : Nat) (hq : q < lonT L 32) (he : e < ol L q) : offT L q + e < offT L (lonT L 32) := by
  have := offT_mono L (q + 1) (lonT L 32) (by omega)
  rw [offT_succ] at this
  omega
theorem off_inj (L : Nat → Nat) (q e r f : Nat) (he : e < ol L q) (hf : f < ol L r) (h : offT L q + e = offT L r + f) : q = r ∧ e = f := by
  rcases Nat.lt_trichotomy q r with x | x | x
  · have := offT_mono L (q + 1) r (by omega); rw [offT_succ] at this; omega
  · subst x; exact ⟨rfl, by omega⟩
  · have := offT_mono L (r + 1) q (by omega); rw [offT_succ] at this; omega

theorem PI_step {L : Nat → Nat} {d m : Nat} {F : Nat → Nat} (h : PI L d m F) (hq : lonT L d + m < lonT L 32) (hd : d < ol L (lonT L d + m)) :
    PI L d (m + 1) (fun x => if x = offT L (lonT L d + m) + d then idN L (lonT L d + m) d else F x) := by
  intro q e hq' he hc
  show (if offT L q + e = offT L (lonT L d + m) + d then _ else _) = _
  by_cases x : offT L q + e = offT L (lonT L d + m) + d
  · obtain ⟨rfl, rfl⟩ := off_inj L q e _ _ he hd x
    rw [if_pos rfl]
  · rw [if_neg x]
    refine h q e hq' he ?_
    rcases hc with hc | ⟨rfl, hc⟩
    · exact .inl hc
    · by_cases y : q = lonT L e + m
      · exact absurd (by rw [y]) x
      · exact .inr ⟨rfl, by omega⟩

theorem PI_next {L : Nat → Nat} {d : Nat} {F : Nat → Nat} (h : PI L d (lonT L 32 - lonT L d) F) : PI L (d + 1) 0 F := by
  intro q e hq he hc
  refine h q e hq he ?_
  rcases hc with hc | ⟨rfl, hc⟩
  · by_cases x : e = d
    · subst x
      have := (lon_le_iff L q e hq).2 he
      exact .inr ⟨rfl, by omega⟩
    · exact .inl (by omega)
  · have := (lon_le_iff L q (d + 1) hq).2 he
    omega

/-- the world in the third phase -/
structure NsC (L : Nat → Nat) (w : World) (g M : Nat) (ds : List Nat) (nb cap : Nat) (F : Nat → Nat) (wr : World) : Prop where
  B : NsB L w g M wr
  sh : wr.rowIs w.heap.size 65 513 (shF (.slice (some ⟨nb, 0, none⟩) ds.length cap) (pthT L (M + 1) (lonT L 32)) (codT L (lonT L 32)))
  own : wr.ownsRow (M + 2) 67 9 (.slice (some ⟨nb, 0, none⟩) ds.length cap) ds.length (nodeCells ds)
  pb : wr.rowIs (M + 1) 21 (offT L (lonT L 32)) (fun x => .int .i32 (F x : Nat))

namespace NsC
variable {L : Nat → Nat} {w wr : World} {g M : Nat} {ds : List Nat} {nb cap : Nat} {F : Nat → Nat}
theorem drew (h : NsC L w g M ds nb cap F wr) : NsC L w g M ds nb cap F wr.drew := ⟨h.B.drew, h.sh, h.own, h.pb⟩
theorem drewN (h : NsC L w g M ds nb cap F wr) (n : Nat) : NsC L w g M ds nb cap F (wr.drewN n) := ⟨h.B.drewN n, rowIs_drewN h.sh n, h.own, rowIs_drewN h.pb n⟩
theorem le (h : NsC L w g M ds nb cap F wr) : M + 2 ≤ nb ∧ nb < wr.heap.size := h.own.lt nb rfl
theorem setPath (h : NsC L w g M ds nb cap F wr) (x v : Nat) : NsC L w g M ds nb cap (fun y => if y = x then v else F y) (wr.setCell ⟨M + 1, x, none⟩ (.int .i32 (v : Nat))) := by
  have a := h.B.hg
  have b := h.B.hgM
  refine ⟨h.B.setCell (.inr (by show M < M + 1; omega)) _, h.sh.setOther (by show w.heap.size ≠ M + 1; omega) _, ownsRow_setCell_below h.own (by show M + 1 < M + 2; omega) _, (h.pb.set x _).congr ?_⟩
  intro i hi
  by_cases e : i = x
  · rw [if_pos e, if_pos e]
  · rw [if_neg e, if_neg e]
theorem push (h : NsC L w g M ds nb cap F wr) (d : Nat) (o : Obj) {w' : World} {v' : Value} (hown : w'.ownsRow (M + 2) 67 9 v' (ds.length + 1) (nodeCells ds ++ (nodeA (d : Int)).toList)) (hgr : (wr.alloc o).grownBy w' (some nb)) :
    ∃ nb' cap', v' = .slice (some ⟨nb', 0, none⟩) (ds.length + 1) cap' ∧ w'.cell? ⟨w.heap.size, 0, none⟩ = some (.slice (some ⟨nb, 0, none⟩) ds.length cap) ∧ w'.frozen? ⟨w.heap.size, 0, none⟩ = false ∧
      NsC L w g M (ds ++ [d]) nb' cap' F (w'.setCell ⟨w.heap.size, 0, none⟩ (.slice (some ⟨nb', 0, none⟩) (ds.length + 1) cap')) := by
  have a := h.B.hg
  have b := h.B.hgM
  have hle := h.le
  have hsh' : w'.rowIs w.heap.size 65 513 (shF (.slice (some ⟨nb, 0, none⟩) ds.length cap) (pthT L (M + 1) (lonT L 32)) (codT L (lonT L 32))) :=
    (h.sh.alloc o).of_block (hgr.block _ (by have := (h.sh.alloc o).lt; omega) (fun e => by have := Option.some.inj e; omega))
  have hpb' : w'.rowIs (M + 1) 21 (offT L (lonT L 32)) (fun x => .int .i32 (F x : Nat)) :=
    (h.pb.alloc o).of_block (hgr.block _ (by have := (h.pb.alloc o).lt; omega) (fun e => by have := Option.some.inj e; omega))
  have hB' : NsB L w g M w' := (h.B.alloc o).grown hgr (fun k e => by have := Option.some.inj e; omega)
  obtain ⟨nb', cap', hv⟩ : ∃ nb' cap', v' = .slice (some ⟨nb', 0, none⟩) (ds.length + 1) cap' := by
    rcases hown.2 with ⟨_, hz⟩ | ⟨g', c', cur, hv, _⟩
    · omega
    · exact ⟨g', c', hv⟩
  subst hv
  refine ⟨nb', cap', rfl, hsh'.cell (by omega), hsh'.frozen _, ?_⟩
  have hl : (ds ++ [d]).length = ds.length + 1 := by simp
  have hcells : nodeCells (ds ++ [d]) = nodeCells ds ++ (nodeA (d : Int)).toList := by rw [nodeCells_append, nodeCells_one]
  have hle' := hown.lt nb' rfl
  refine ⟨hB'.setCell (.inl rfl) _, ?_, ?_, hpb'.setOther (by show M + 1 ≠ w.heap.size; omega) _⟩
  · rw [hl]
    refine (hsh'.set 0 _).congr ?_
    intro i hi
    by_cases e : i = 0
    · rw [if_pos e]; unfold shF; rw [if_pos e]
    · rw [if_neg e]; unfold shF; rw [if_neg e, if_neg e]
  · rw [hl, hcells]
    exact ownsRow_setCell_below hown (by show w.heap.size < M + 2; omega) _
end NsC

theorem pthT_all (L : Nat → Nat) (PB q : Nat) (hq : q < lonT L 32) : pthT L PB (lonT L 32) (oc L q) = .slice (some ⟨PB, offT L q, none⟩) (ol L q) (ol L q) := by
  obtain ⟨h1, h2, h3, h4⟩ := oc_facts L q hq
  unfold pthT
  rw [h4, if_pos ⟨h2, hq⟩]
  rfl
theorem codT_all (L : Nat → Nat) (q : Nat) (hq : q < lonT L 32) : codT L (lonT L 32) (oc L q) = pr L q (ol L q) := by
  obtain ⟨h1, h2, h3, h4⟩ := oc_facts L q hq
  unfold codT
  rw [h4, if_pos ⟨h2, hq⟩]
  rfl
/-- the prefix that stands in newShape's variable behind m positions of depth d -/
def prefT (L : Nat → Nat) (d m : Nat) : Nat := if m = 0 then 0 else pr L (lonT L d + (m - 1)) d
end Go.Proofs.Qxb6602643a
