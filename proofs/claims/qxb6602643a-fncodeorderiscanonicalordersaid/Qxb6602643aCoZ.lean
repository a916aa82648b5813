/- ZZCodeOrder, and the law over it. -/
import Derived.Test.Qxb6602643aCo
namespace Go.Proofs.Qxb6602643a
open Go.RowKit
set_option linter.unusedVariables false

set_option maxRecDepth 100000 in
set_option maxHeartbeats 1000000 in
theorem zzCodeOrder_any (w : World) (b : Nat) (L : Nat → Nat) (hb : b < w.heap.size) (hL : ∀ i, i < 256 → w.cell? ⟨b, i, none⟩ = some (.int .u8 (L i : Int))) (hm : ∀ i, i < 256 → L i ≤ 32) :
    Calls Try.prog 8 #[.pointer (some ⟨b, 0, none⟩)] w (CoPost L w) := by
  have hi25 : (Try.prog.info? 25).map (·.size) = some (lonV L).length := by rw [Try.info25, lonV_length]
  have ho25 : ∀ v ∈ lonV L, v.oneCell' = true := fun v hv => by obtain ⟨j, _, rfl⟩ := tab_mem hv; rfl
  have HL : Hid _ := hL
  have HB : Hid _ := hm
  clear hL hm
  go_enter Try.func8, Try.ntmps8
  go_wp2_with fail
  refine (codeOrder_any _ b L (by simp; omega) ?_ HB.out).mono ?_
  · intro i hi
    rw [World.cell?_alloc_lt _ _ _ hb]
    exact HL.out i hi
  rintro e w1 ⟨g, rfl, hg, hrow, hbel⟩
  simp only [World.size_alloc] at hg hbel
  have hblk : ∃ c, w1.heap[w.heap.size]? = some (.cells c 25 (0, 0)) ∧ c.size = 33 := by
    rw [hbel.block _ (by omega), heap_alloc_new]
    exact ⟨_, rfl, rfl⟩
  obtain ⟨c3, hb3, hn3⟩ := hblk
  have hld : (loadVar 25 ⟨w.heap.size, 0, none⟩).run Try.prog (w1.setRow w.heap.size (lonV L).toArray) = .ok (.agg (lonV L).toArray) (w1.setRow w.heap.size (lonV L).toArray) :=
    run_loadVar_row _ _ 25 25 (lonV L).toArray (0, 0) _ (setRow_heap w1 w.heap.size c3 _ 25 _ hb3) Try.underlying25 rfl (by simpa using hi25)
  have hend : Below w.heap.size w (w1.setRow w.heap.size (lonV L).toArray) := below_setRow (((Below.refl _ _).alloc (Nat.le_refl _) _).trans (hbel.mono (by omega))) (Nat.le_refl _) _
  have hrow' := rowIs_setRow_other hrow (g := w.heap.size) (by omega) (lonV L).toArray
  go_wp2_with (refine wpList_store_row rfl 25 _ _ rfl w.heap.size (lonV L).toArray rfl rfl 25 c3 hb3 ?_ ?_ ?_ ?_)
  · simpa using hi25
  · simp [hn3, lonV_length]
  · exact all_oneCell_toArray ho25
  go_wp2_with fail
  refine bodyPost_ret (results_tmp_cell rfl _ _ w.heap.size _ rfl hld) rfl ?_
  exact ⟨g, rfl, by omega, hrow', hend⟩
end Go.Proofs.Qxb6602643a
