/- The clones. -/
import Derived.Test.Qxb6602813aRows
import Derived.Test.Qxb6602813aKit
import Derived.Laws.CopyOwn
import Derived.Lib.SliceRun
namespace Go.Proofs.Qxb6602813a
open Go.RowKit
set_option linter.unusedVariables false

theorem Try.info27c : (Try.prog.info? 27).map (fun i => (i.zero, i.size, i.bytes)) = some (some (.int .u32 0), 1, 4) := by kernel_rfl
theorem Try.size27c : (Try.prog.info? 27).map (·.size) = some 1 := by kernel_rfl

set_option maxRecDepth 100000 in
theorem cloneU32_any (w : World) (a : Option Addr) (n c : Nat) (Z : Nat → Nat) (hn : n ≤ 65536) (ha : a = none → n = 0) (hz : ∀ x, a = some x → ∀ i, i < n → w.cell? (x.add i) = some (.int .u32 (Z i : Nat))) :
    Calls Try.prog 11 #[.slice a n c] w fun e w' => ∃ a' c' g, e = .returned (.slice a' n c') ∧ (0 < n → a' = some ⟨g, 0, none⟩ ∧ w.heap.size ≤ g) ∧ (∀ i, i < n → w'.cell? ⟨g, i, none⟩ = some (.int .u32 (Z i : Nat))) ∧ Below w.heap.size w w' := by
  have hnil := fun (w : World) (a : Option Addr) (n c : Nat) => Lib.run_eql_slice_nil (P := Try.prog) w 25 27 a n c 0 0 Try.underlying25
  cases a with
  | none =>
    obtain rfl := ha rfl
    clear ha hz
    go_enter Try.func11, Try.ntmps11
    go_wp2_with fail
    go_ret
    exact ⟨none, 0, 0, rfl, fun h => by omega, fun i hi => by omega, Below.refl _ _⟩
  | some x =>
    have hzz := hz x rfl
    have hmk := fun w => run_make_row' (P := Try.prog) 25 27 (.int .u32 0) 4 Try.underlying25 Try.info27c rfl .i64 .i64 n (by omega) (by omega) w
    have HZ : Hid _ := hzz
    clear ha hz hzz
    obtain ⟨cs, hcs⟩ : ∃ cs, cs = tab n (fun i => Value.int .u32 (Z i : Nat)) := ⟨_, rfl⟩
    have hlen : cs.length = n := by rw [hcs, tab_length]
    have hget : ∀ j v, cs[j]? = some v → j < n ∧ v = .int .u32 (Z j : Nat) := fun j v hv => by rw [hcs] at hv; exact tab_some hv
    have hone : ∀ v ∈ cs, v.oneCell' = true := fun v hv => by rw [hcs] at hv; obtain ⟨j, _, rfl⟩ := tab_mem hv; rfl
    have HCS : Hid _ := hcs
    clear hcs
    go_enter Try.func11, Try.ntmps11
    go_upto_region 4 with fail
    have b1 := (Below.refl w.heap.size w).alloc (Nat.le_refl _) (Obj.cells (madeCells #[.int .u32 0] n) 27)
    have r1 : (w.alloc (Obj.cells (madeCells #[.int .u32 0] n) 27)).heap[w.heap.size]? = some (.cells (madeCells #[.int .u32 0] n).toList.toArray 27 (0, 0)) := by rw [heap_alloc_new]
    have hml : (madeCells #[Value.int .u32 0] n).toList.length = n := by simp [madeCells]
    generalize w.alloc (Obj.cells (madeCells #[.int .u32 0] n) 27) = W at *
    generalize (madeCells #[Value.int .u32 0] n).toList = cur at *
    have hmin : cs.length = Nat.min n n := by rw [hlen]; exact (Nat.min_self n).symm
    have hfit : 0 + cs.length ≤ cur.length := by omega
    have hpos : 0 < cs.length → (some (⟨w.heap.size, 0, none⟩ : Addr) = some ⟨w.heap.size, 0, none⟩) ∧ ∃ ad, some x = some ad ∧ ∀ j v, cs[j]? = some v → W.cell? (ad.add j) = some v := fun _ => ⟨rfl, x, rfl, fun j v hv => by
      obtain ⟨h1, rfl⟩ := hget j v hv
      have h := HZ.out j h1
      rw [b1.cell (p := x.add j) (block_lt_of_cell h)]; exact h⟩
    have HP : Hid _ := hpos
    clear hpos
    go_wp2_with (first | (refine wpList_copy_splice rfl _ _ 25 25 rfl 27 Try.underlying25 Try.size27c (some ⟨w.heap.size, 0, none⟩) (some x) n n n c rfl rfl w.heap.size 0 cur 27 r1 cs hmin HP.out hfit hone w.heap.size w b1 (Nat.le_refl _) ?_))
    intro W2 h2 b2
    go_wp2_with fail
    go_ret
    refine ⟨some ⟨w.heap.size, 0, none⟩, n, w.heap.size, rfl, fun _ => ⟨rfl, Nat.le_refl _⟩, fun i hi => ?_, b2⟩
    have e : (splice cur 0 cs)[i]? = some (.int .u32 (Z i : Nat)) := by
      unfold splice
      rw [List.take_zero, List.nil_append, List.getElem?_append_left (by omega), HCS.out]
      exact tab_get hi
    simp [World.cell?, h2.out, e]

theorem Try.info5c : (Try.prog.info? 5).map (fun i => (i.zero, i.size, i.bytes)) = some (some (.int .u8 0), 1, 1) := by kernel_rfl
theorem Try.size5c : (Try.prog.info? 5).map (·.size) = some 1 := by kernel_rfl

set_option maxRecDepth 100000 in
theorem cloneBytes_any (w : World) (a : Option Addr) (n c : Nat) (Z : Nat → Nat) (hn : n ≤ 65536) (ha : a = none → n = 0) (hz : ∀ x, a = some x → ∀ i, i < n → w.cell? (x.add i) = some (.int .u8 (Z i : Nat))) :
    Calls Try.prog 16 #[.slice a n c] w fun e w' => ∃ a' c' g, e = .returned (.slice a' n c') ∧ (0 < n → a' = some ⟨g, 0, none⟩ ∧ w.heap.size ≤ g) ∧ (∀ i, i < n → w'.cell? ⟨g, i, none⟩ = some (.int .u8 (Z i : Nat))) ∧ Below w.heap.size w w' := by
  have hnil := fun (w : World) (a : Option Addr) (n c : Nat) => Lib.run_eql_slice_nil (P := Try.prog) w 32 5 a n c 0 0 Try.underlying32
  cases a with
  | none =>
    obtain rfl := ha rfl
    clear ha hz
    go_enter Try.func16, Try.ntmps16
    go_wp2_with fail
    go_ret
    exact ⟨none, 0, 0, rfl, fun h => by omega, fun i hi => by omega, Below.refl _ _⟩
  | some x =>
    have hzz := hz x rfl
    have hmk := fun w => run_make_row' (P := Try.prog) 32 5 (.int .u8 0) 1 Try.underlying32 Try.info5c rfl .i64 .i64 n (by omega) (by omega) w
    have HZ : Hid _ := hzz
    clear ha hz hzz
    obtain ⟨cs, hcs⟩ : ∃ cs, cs = tab n (fun i => Value.int .u8 (Z i : Nat)) := ⟨_, rfl⟩
    have hlen : cs.length = n := by rw [hcs, tab_length]
    have hget : ∀ j v, cs[j]? = some v → j < n ∧ v = .int .u8 (Z j : Nat) := fun j v hv => by rw [hcs] at hv; exact tab_some hv
    have hone : ∀ v ∈ cs, v.oneCell' = true := fun v hv => by rw [hcs] at hv; obtain ⟨j, _, rfl⟩ := tab_mem hv; rfl
    have HCS : Hid _ := hcs
    clear hcs
    go_enter Try.func16, Try.ntmps16
    go_upto_region 4 with fail
    have b1 := (Below.refl w.heap.size w).alloc (Nat.le_refl _) (Obj.cells (madeCells #[.int .u8 0] n) 5)
    have r1 : (w.alloc (Obj.cells (madeCells #[.int .u8 0] n) 5)).heap[w.heap.size]? = some (.cells (madeCells #[.int .u8 0] n).toList.toArray 5 (0, 0)) := by rw [heap_alloc_new]
    have hml : (madeCells #[Value.int .u8 0] n).toList.length = n := by simp [madeCells]
    generalize w.alloc (Obj.cells (madeCells #[.int .u8 0] n) 5) = W at *
    generalize (madeCells #[Value.int .u8 0] n).toList = cur at *
    have hmin : cs.length = Nat.min n n := by rw [hlen]; exact (Nat.min_self n).symm
    have hfit : 0 + cs.length ≤ cur.length := by omega
    have hpos : 0 < cs.length → (some (⟨w.heap.size, 0, none⟩ : Addr) = some ⟨w.heap.size, 0, none⟩) ∧ ∃ ad, some x = some ad ∧ ∀ j v, cs[j]? = some v → W.cell? (ad.add j) = some v := fun _ => ⟨rfl, x, rfl, fun j v hv => by
      obtain ⟨h1, rfl⟩ := hget j v hv
      have h := HZ.out j h1
      rw [b1.cell (p := x.add j) (block_lt_of_cell h)]; exact h⟩
    have HP : Hid _ := hpos
    clear hpos
    go_wp2_with (first | (refine wpList_copy_splice rfl _ _ 32 32 rfl 5 Try.underlying32 Try.size5c (some ⟨w.heap.size, 0, none⟩) (some x) n n n c rfl rfl w.heap.size 0 cur 5 r1 cs hmin HP.out hfit hone w.heap.size w b1 (Nat.le_refl _) ?_))
    intro W2 h2 b2
    go_wp2_with fail
    go_ret
    refine ⟨some ⟨w.heap.size, 0, none⟩, n, w.heap.size, rfl, fun _ => ⟨rfl, Nat.le_refl _⟩, fun i hi => ?_, b2⟩
    have e : (splice cur 0 cs)[i]? = some (.int .u8 (Z i : Nat)) := by
      unfold splice
      rw [List.take_zero, List.nil_append, List.getElem?_append_left (by omega), HCS.out]
      exact tab_get hi
    simp [World.cell?, h2.out, e]

end Go.Proofs.Qxb6602813a
