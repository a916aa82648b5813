/- FnNewShapeCodesDecodeAlongTree, walked. -/
import Derived.Test.Qxb6602643aDcA
import Derived.Test.Qxb6602643aZn
namespace Go.Proofs.Qxb6602643a
open Go.RowKit
set_option linter.unusedVariables false

theorem Try.zero23 : (Try.prog.info? 23).map (fun i => i.zero.map Value.cells) = some (some (Array.replicate 256 (.int .u8 0))) := by kernel_rfl
theorem Try.size23 : (Try.prog.info? 23).map (·.size) = some 256 := by kernel_rfl
def lenV (L : Nat → Nat) : List Value := tab 256 fun i => Value.int .u8 (L i)
theorem lenV_length (L : Nat → Nat) : (lenV L).length = 256 := tab_length _ _
def cntV (C : Nat → Nat) : List Value := tab 256 fun i => Value.int .u64 (C i)
theorem cntV_length (C : Nat → Nat) : (cntV C).length = 256 := tab_length _ _

/-- a new block that has been filled whole -/
theorem filled {w : World} {z : Array Value} {t : TypeId} {f : Nat → Value} (n : Nat) (hz : z.size = n) (cs : List Value) (hcs : cs = tab n f) :
    ((w.alloc (.cells z t)).setRow w.heap.size cs.toArray).rowIs w.heap.size t n f ∧ Below w.heap.size w ((w.alloc (.cells z t)).setRow w.heap.size cs.toArray) ∧
      ((w.alloc (.cells z t)).setRow w.heap.size cs.toArray).heap.size = w.heap.size + 1 := by
  subst hcs
  refine ⟨⟨(tab n f).toArray, setRow_heap _ _ _ _ _ _ (heap_alloc_new _ _), by simp [tab_length], fun i hi => by rw [List.getElem?_toArray]; exact tab_get hi⟩, ?_, by simp⟩
  exact below_setRow ((Below.refl _ _).alloc (Nat.le_refl _) _) (Nat.le_refl _) _

/-- two new blocks, both filled whole -/
theorem filled2 {w : World} {z1 z2 : Array Value} {t1 t2 : TypeId} {f1 f2 : Nat → Value} (n : Nat) (c1 c2 : List Value) (h1 : c1 = tab n f1) (h2 : c2 = tab n f2) :
    Below w.heap.size w ((((w.alloc (.cells z1 t1)).alloc (.cells z2 t2)).setRow w.heap.size c1.toArray).setRow (w.heap.size + 1) c2.toArray) ∧
    ((((w.alloc (.cells z1 t1)).alloc (.cells z2 t2)).setRow w.heap.size c1.toArray).setRow (w.heap.size + 1) c2.toArray).rowIs w.heap.size t1 n f1 ∧
    ((((w.alloc (.cells z1 t1)).alloc (.cells z2 t2)).setRow w.heap.size c1.toArray).setRow (w.heap.size + 1) c2.toArray).rowIs (w.heap.size + 1) t2 n f2 := by
  subst h1 h2
  have hb : ((w.alloc (.cells z1 t1)).alloc (.cells z2 t2)).heap[w.heap.size + 1]? = some (.cells z2 t2 (0, 0)) := heap_alloc2_new _ _ _
  refine ⟨below_setRow (below_setRow (((Below.refl _ _).alloc (Nat.le_refl _) _).alloc (by simp) _) (Nat.le_refl _) _) (by omega) _, ?_, ?_⟩
  · exact ⟨(tab n f1).toArray, by rw [setRow_other _ _ _ _ (by omega)]; exact setRow_heap _ _ _ _ _ _ (heap_alloc2_old _ _ _), by simp [tab_length], fun i hi => by rw [List.getElem?_toArray]; exact tab_get hi⟩
  · exact ⟨(tab n f2).toArray, setRow_heap _ _ z2 _ _ _ (by rw [setRow_other _ _ _ _ (by omega)]; exact hb), by simp [tab_length], fun i hi => by rw [List.getElem?_toArray]; exact tab_get hi⟩

set_option maxRecDepth 100000 in
set_option maxHeartbeats 4000000 in
theorem law7_any (w : World) (cb co lb lo : Nat) (C L : Nat → Nat) (hC : ∀ i, i < 256 → w.cell? ⟨cb, co + i, none⟩ = some (.int .u64 (C i : Int))) (hC64 : ∀ i, i < 256 → C i < 18446744073709551616)
    (hL : ∀ i, i < 256 → w.cell? ⟨lb, lo + i, none⟩ = some (.int .u8 (L i : Int))) (h255 : ∀ i, i < 256 → L i ≤ 255) :
    Calls Try.prog 7 #[.pointer (some ⟨cb, co, none⟩), .pointer (some ⟨lb, lo, none⟩)] w fun e w' => e = .returned (.bool true) ∧ Below w.heap.size w w' := by
  have hrC : w.rangeAt cb co (cntV C) := by intro j v hv; obtain ⟨h1, rfl⟩ := tab_some hv; exact hC j h1
  have hrL : w.rangeAt lb lo (lenV L) := by intro j v hv; obtain ⟨h1, rfl⟩ := tab_some hv; exact hL j h1
  have hlblt : lb < w.heap.size := block_lt_of_cell (hL 0 (by omega))
  have hi38 : Hid ((Try.prog.info? 38).map (·.size) = some (cntV C).length) := by show _ = _; rw [Try.size38, cntV_length]
  have hi23 : Hid ((Try.prog.info? 23).map (·.size) = some (lenV L).length) := by show _ = _; rw [Try.size23, lenV_length]
  have ho38 : ∀ v ∈ cntV C, v.oneCell' = true := fun v hv => by obtain ⟨j, _, rfl⟩ := tab_mem hv; rfl
  have ho23 : ∀ v ∈ lenV L, v.oneCell' = true := fun v hv => by obtain ⟨j, _, rfl⟩ := tab_mem hv; rfl
  have HC64 : Hid _ := hC64
  have HL : Hid _ := hL
  have H255 : Hid _ := h255
  clear hC hC64 hL h255
  go_enter Try.func7, Try.ntmps7
  go_wp2_with fail
  refine (complete_any w lb lo L HL.out H255.out).mono ?_
  rintro e w1 ⟨rfl, rfl | ⟨rfl, hm, hKR⟩⟩
  · go_wp2_with fail
    go_ret
    exact ⟨rfl, Below.refl _ _⟩
  have hK : SK L (lonT L 32) = 2 ^ 32 := by rw [KR_SK L hm, hKR]
  have HB : Hid _ := hm
  have HK : Hid _ := hK
  clear hm hKR hK
  go_upto_region 6 with (first | refine wpList_load_mid rfl 38 _ rfl cb co rfl (cntV C) _ hrC Try.underlying38 rfl hi38.out ?_ | refine wpList_alloc rfl 38 rfl _ Try.zero38 ?_ | refine wpList_store_row rfl 38 _ _ rfl w.heap.size (cntV C).toArray rfl rfl 38 ?qold ?qblk ?qi ?qs ?qone ?_)
  case qblk => exact heap_alloc_new _ _
  case qi => simpa using hi38.out
  case qs => simp [cntV_length]
  case qone => exact all_oneCell_toArray ho38
  obtain ⟨f1, f2, f3⟩ := filled (w := w) (z := Array.replicate 256 (Value.int IntKind.u64 0)) (t := 38) (f := fun i => Value.int .u64 (C i)) 256 (by simp) (cntV C) rfl
  have f4 : ((w.alloc (Obj.cells (Array.replicate 256 (Value.int IntKind.u64 0)) 38)).setRow w.heap.size (cntV C).toArray).rangeAt lb lo (lenV L) := fun j v hv => by rw [f2.cell (p := ⟨lb, lo + j, none⟩) hlblt]; exact hrL j v hv
  clear hrC hrL
  generalize (w.alloc (Obj.cells (Array.replicate 256 (Value.int IntKind.u64 0)) 38)).setRow w.heap.size (cntV C).toArray = W1 at *
  have F3 : Hid _ := f3
  clear f3
  go_upto_region 8 with (first | refine wpList_load_mid rfl 23 _ rfl lb lo rfl (lenV L) _ f4 Try.underlying23 rfl hi23.out ?_ | refine wpList_alloc rfl 23 rfl _ Try.zero23 ?_ | refine wpList_store_row rfl 23 _ _ rfl W1.heap.size (lenV L).toArray rfl rfl 23 ?rold ?rblk ?ri ?rs ?rone ?_)
  case rblk => exact heap_alloc_new _ _
  case ri => simpa using hi23.out
  case rs => simp [lenV_length]
  case rone => exact all_oneCell_toArray ho23
  obtain ⟨g1, g2, g3⟩ := filled (w := W1) (z := Array.replicate 256 (Value.int IntKind.u8 0)) (t := 23) (f := fun i => Value.int .u8 (L i)) 256 (by simp) (lenV L) rfl
  have f3 := F3.out
  have g4 := f1.of_block (g2.block w.heap.size (by omega))
  have g5 : Below w.heap.size w _ := f2.trans (g2.mono (by omega))
  clear f1 f2 f4 g2
  rw [f3] at g1 g3 g4 g5 ⊢
  generalize (W1.alloc (Obj.cells (Array.replicate 256 (Value.int IntKind.u8 0)) 23)).setRow (w.heap.size + 1) (lenV L).toArray = W2 at *
  go_upto_region 9 with fail
  go_cut [7, 8, 9] from 26 (fun s7 s8 s9 wc => ∃ zb cap PB b8 b9 F ch, s7 = .slice (some ⟨zb, 0, none⟩) (NB L 32) cap ∧ s8 = .pointer (some ⟨b8, 0, none⟩) ∧ s9 = .pointer (some ⟨b9, 0, none⟩) ∧ Below w.heap.size w wc ∧
    wc.rowIs w.heap.size 38 256 (fun i => .int .u64 (C i)) ∧ wc.rowIs (w.heap.size + 1) 23 256 (fun i => .int .u8 (L i)) ∧ wc.rowIs b8 41 256 (pthT L PB (lonT L 32)) ∧ wc.rowIs b9 38 256 (fun c => .int .u64 (codT L (lonT L 32) c : Nat)) ∧
    wc.rowIs PB 21 (offT L (lonT L 32)) (fun x => .int .i32 (F x : Nat)) ∧ PI L 32 0 F ∧
    rowPre wc zb 53 (NB L 32 * 9) (ndF (depN L) (stG L C) (lnG L C (lonT L 32) 0) (onG L C (lonT L 32) 0) ch) ∧ CH L (lonT L 32) 0 ch)
  case rest =>
    obtain ⟨zb, cap, PB, b8, b9, F, ch, rfl, rfl, rfl, h1, h2, h3, h4, h5, h6, h7, h8, h9⟩ := hcut
    go_step
    exact dc_tailA h1 HB.out HK.out HC64.out (fun i hi => h2.cell hi) (fun i hi => h3.cell hi) h4 h5 h6 h7 h8 h9
  go_wp2_with fail
  refine (zzNewShape_any W2 w.heap.size (w.heap.size + 1) C L (by omega) (by omega) (fun i hi => g4.cell hi) HC64.out (fun i hi => g1.cell hi) HB.out (Nat.le_of_eq HK.out)).mono ?_
  rintro e w3 ⟨zb, cap, PB, F, ch, rfl, z1, z2, z3, z4, z5, z6, z7⟩
  have HPI : Hid _ := z6
  have HCH : Hid _ := z7
  clear z6 z7
  have y1 := g1.of_block (z1.block (w.heap.size + 1) (by omega))
  have y4 := g4.of_block (z1.block w.heap.size (by omega))
  have y5 : Below w.heap.size w w3 := g5.trans (z1.mono (by omega))
  have ysz := z1.size
  have l4 := z4.lt
  have l5 := z5.lt
  clear g1 g4 g5 z1
  have hj41 : Hid ((Try.prog.info? 41).map (·.size) = some (pthV L PB).length) := by show _ = _; rw [Try.size41, pthV_length]
  have hj38 : Hid ((Try.prog.info? 38).map (·.size) = some (codV L).length) := by show _ = _; rw [Try.size38, codV_length]
  have hp41 : ∀ v ∈ pthV L PB, v.oneCell' = true := fun v hv => by obtain ⟨j, _, rfl⟩ := tab_mem hv; unfold pthT; split <;> rfl
  have hp38 : ∀ v ∈ codV L, v.oneCell' = true := fun v hv => by obtain ⟨j, _, rfl⟩ := tab_mem hv; rfl
  go_wp2_with (first | refine wpList_alloc rfl 41 rfl _ Try.zero41 ?_ | refine wpList_alloc rfl 38 rfl _ Try.zero38 ?_ | refine wpList_store_row rfl 41 _ _ rfl w3.heap.size (pthV L PB).toArray rfl rfl 41 (Array.replicate 256 (.slice none 0 0)) ?sblk ?si ?ss ?sone ?_ | refine wpList_store_row rfl 38 _ _ rfl (w3.heap.size + 1) (codV L).toArray rfl rfl 38 (Array.replicate 256 (.int .u64 0)) ?tblk ?ti ?ts ?tone ?_)
  case sblk => exact heap_alloc2_old _ _ _
  case si => simpa using hj41.out
  case ss => simp [pthV_length]
  case sone => exact all_oneCell_toArray hp41
  case tblk => rw [setRow_other _ _ _ _ (by omega), show w3.heap.size + 1 = (w3.alloc (Obj.cells (Array.replicate 256 (Value.slice none 0 0)) 41)).heap.size from by simp]; exact heap_alloc_new _ _
  case ti => simpa using hj38.out
  case ts => simp [codV_length]
  case tone => exact all_oneCell_toArray hp38
  go_meet
  case rel =>
    obtain ⟨k1, k2, k3⟩ := filled2 (w := w3) (z1 := Array.replicate 256 (.slice none 0 0)) (z2 := Array.replicate 256 (.int .u64 0)) (t1 := 41) (t2 := 38) (f1 := pthT L PB (lonT L 32)) (f2 := fun c => .int .u64 (codT L (lonT L 32) c : Nat)) 256 (pthV L PB) (codV L) rfl rfl
    exact ⟨zb, cap, PB, w3.heap.size, w3.heap.size + 1, F, ch, rfl, rfl, rfl, y5.trans (k1.mono (by omega)), y4.of_block (k1.block _ (by omega)), y1.of_block (k1.block _ (by omega)), k2, k3, z5.of_block (k1.block _ l5), HPI.out, z4.of_block (k1.block _ l4), HCH.out⟩
end Go.Proofs.Qxb6602643a
