/- FnCodeOrderIsCanonicalOrder, walked. -/
import Derived.Test.Qxb6602643aCoZ
import Derived.WalkSpells
namespace Go.Proofs.Qxb6602643a
open Go.RowKit
set_option linter.unusedVariables false

theorem Try.zero23 : (Try.prog.info? 23).map (fun i => i.zero.map Value.cells) = some (some (Array.replicate 256 (.int .u8 0))) := by kernel_rfl
theorem Try.zero25 : (Try.prog.info? 25).map (fun i => i.zero.map Value.cells) = some (some (Array.replicate 33 (.int .i64 0))) := by kernel_rfl
theorem Try.info23 : (Try.prog.info? 23).map (·.size) = some 256 := by kernel_rfl

def lenV (L : Nat → Nat) : List Value := tab 256 fun i => Value.int .u8 (L i)
theorem lenV_length (L : Nat → Nat) : (lenV L).length = 256 := tab_length _ _
def u8s (l : List Nat) : List Value := l.map fun c => Value.int .u8 (c : Nat)

set_option maxRecDepth 100000 in
set_option maxHeartbeats 2000000 in
theorem law3_any (w : World) (pb po : Nat) (L : Nat → Nat) (hL : ∀ i, i < 256 → w.cell? ⟨pb, po + i, none⟩ = some (.int .u8 (L i : Int))) :
    Calls Try.prog 3 #[.pointer (some ⟨pb, po, none⟩)] w fun e w' => e = .returned (.bool true) ∧ Below w.heap.size w w' := by
  obtain ⟨i5, hi5, hz5, hs5, hb5⟩ := info_parts Try.info5
  have HI5 : Hid _ := And.intro hi5 (And.intro hz5 (And.intro hs5 hb5))
  have hi25 : Hid ((Try.prog.info? 25).map (·.size) = some (lonV L).length) := by rw [Try.info25, lonV_length]; rfl
  have ho25 : ∀ v ∈ lonV L, v.oneCell' = true := fun v hv => by obtain ⟨j, _, rfl⟩ := tab_mem hv; rfl
  have hi23 : Hid ((Try.prog.info? 23).map (·.size) = some (lenV L).length) := by rw [Try.info23, lenV_length]; rfl
  have ho23 : ∀ v ∈ lenV L, v.oneCell' = true := fun v hv => by obtain ⟨j, _, rfl⟩ := tab_mem hv; rfl
  have hrange : w.rangeAt pb po (lenV L) := by
    intro j v hv
    obtain ⟨h1, rfl⟩ := tab_some hv
    exact hL j h1
  have HL : Hid _ := hL
  clear hL hi5 hz5 hs5 hb5
  go_enter Try.func3, Try.ntmps3
  go_wp2
  go_loopg [3] 256 (fun k i wr => ∃ j : Nat, k = 256 - j ∧ j ≤ 256 ∧ i = .int .i64 j ∧ w = wr ∧ ∀ i, i < j → L i ≤ 32)
  case atStart => exact ⟨0, rfl, by omega, rfl, rfl, fun i h => by omega⟩
  case round =>
    obtain ⟨j, hk0, hj, rfl, rfl, hm0⟩ := hrel
    have hk : Hid _ := hk0
    have HB : Hid _ := hm0
    clear hk0 hm0
    by_cases hlt : j < 256
    · have g1 : w.cell? ⟨pb, po + j, none⟩ = some (.int .u8 (L j : Int)) := HL.out j hlt
      by_cases hbig : 32 < L j
      · have hbig' : (32 : Int) < (L j : Int) := by omega
        go_wp2
        go_ret
        exact ⟨rfl, Below.refl _ _⟩
      · have hbig' : ¬ (32 : Int) < (L j : Int) := by omega
        go_wp2
        go_roundg (256 - (j + 1))
        case measure => have := hk.out; omega
        case rel =>
          refine ⟨j + 1, rfl, by omega, by go_num, rfl, ?_⟩
          intro i hi
          by_cases e : i = j
          · subst e; omega
          · exact HB.out i (by omega)
    · have hj256 : j = 256 := by omega
      subst hj256
      clear hk
      go_upto_region 8 with fail
      go_wp2_with (first | refine wpList_alloc rfl 23 rfl _ Try.zero23 ?_ | refine wpList_load_mid rfl 23 _ rfl pb po rfl (lenV L) _ hrange Try.underlying23 rfl hi23.out ?_ | refine wpList_store_row rfl 23 _ _ rfl w.heap.size (lenV L).toArray rfl rfl 23 ?qold ?qblk ?qi ?qs ?qone ?_)
      case qblk => exact heap_alloc_new _ _
      case qi => simpa using hi23.out
      case qs => simp [lenV_length]
      case qone => exact all_oneCell_toArray ho23
      have f0 : (w.alloc (Obj.cells (Array.replicate 256 (Value.int IntKind.u8 0)) 23)).rowIs w.heap.size 23 256 (fun _ => .int .u8 0) :=
        ⟨_, heap_alloc_new _ _, by simp, fun i hi => by simp [hi]⟩
      have f1 := rowIs_setRow f0 (lenV L).toArray (by simp [lenV_length]) (fun i => .int .u8 (L i)) (fun i hi => by rw [List.getElem?_toArray]; exact tab_get hi)
      have f2 := below_setRow ((Below.refl w.heap.size w).alloc (Nat.le_refl _) (Obj.cells (Array.replicate 256 (Value.int IntKind.u8 0)) 23)) (Nat.le_refl _) (lenV L).toArray
      have f3 : ((w.alloc (Obj.cells (Array.replicate 256 (Value.int IntKind.u8 0)) 23)).setRow w.heap.size (lenV L).toArray).heap.size = w.heap.size + 1 := by simp
      clear f0
      generalize (w.alloc (Obj.cells (Array.replicate 256 (Value.int IntKind.u8 0)) 23)).setRow w.heap.size (lenV L).toArray = W1 at *
      refine (zzCodeOrder_any W1 w.heap.size L (by omega) (fun i hi => f1.cell hi) HB.out).mono ?_
      rintro e w1 ⟨g, rfl, hg, hord, hbel1⟩
      have hsz1 := hbel1.size
      have f1' : w1.rowIs w.heap.size 23 256 (fun i => .int .u8 (L i)) := f1.of_block (hbel1.block _ (by omega))
      have hbel : Below w.heap.size w w1 := f2.trans (hbel1.mono (by omega))
      clear hbel1 f1 f2
      go_upto_region 11 with (first | refine wpList_alloc rfl 25 rfl _ Try.zero25 ?_ | refine wpList_store_row rfl 25 _ _ rfl w1.heap.size (lonV L).toArray rfl rfl 25 ?pold ?pblk ?pi ?ps ?pone ?_)
      case pblk => exact heap_alloc_new _ _
      case pi => simpa using hi25.out
      case ps => simp [lonV_length]
      case pone => exact all_oneCell_toArray ho25
      have f4 : (w1.alloc (Obj.cells (Array.replicate 33 (Value.int IntKind.i64 0)) 25)).rowIs w1.heap.size 25 33 (fun _ => .int .i64 0) :=
        ⟨_, heap_alloc_new _ _, by simp, fun i hi => by simp [hi]⟩
      have f5 := rowIs_setRow f4 (lonV L).toArray (by simp [lonV_length]) (fun i => .int .i64 (lonT L i)) (fun i hi => by rw [List.getElem?_toArray]; exact tab_get hi)
      have f6 := below_setRow (g := w1.heap.size) (hbel.alloc (by omega) (Obj.cells (Array.replicate 33 (Value.int IntKind.i64 0)) 25)) (by omega) (lonV L).toArray
      have f7 : ((w1.alloc (Obj.cells (Array.replicate 33 (Value.int IntKind.i64 0)) 25)).setRow w1.heap.size (lonV L).toArray).heap.size = w1.heap.size + 1 := by simp
      have f8 := rowIs_setRow_other (f1'.alloc (Obj.cells (Array.replicate 33 (Value.int IntKind.i64 0)) 25)) (g := w1.heap.size) (by omega) (lonV L).toArray
      have hglt := hord.lt
      have f9 := rowIs_setRow_other (hord.alloc (Obj.cells (Array.replicate 33 (Value.int IntKind.i64 0)) 25)) (g := w1.heap.size) (by omega) (lonV L).toArray
      clear f4 f1' hord hbel
      generalize (w1.alloc (Obj.cells (Array.replicate 33 (Value.int IntKind.i64 0)) 25)).setRow w1.heap.size (lonV L).toArray = W2 at *
      go_wp2_with (first | (at_make; refine wpList_make_own _ rfl _ _ 24 rfl W2.heap.size 5 i5 (.int .u8 0) 1 Try.underlying24 HI5.out.1 HI5.out.2.1 HI5.out.2.2.1 _ _ _ 256 rfl rfl rfl ?mb ?ml ?mbase ?_))
      case mb => rw [HI5.out.2.2.2]; omega
      case ml => unfold maxLen; omega
      case mbase => exact Nat.le_refl _
      intro W3 hown hgrow
      have f10 : Below W2.heap.size W2 W3 := (Below.refl _ _).grown hgrow (Nat.le_refl _) (fun k h => by cases h)
      clear hgrow
      rw [f7] at f10
      have hordlen : ∀ d, (u8s (ordL L d)).length = lonT L d := fun d => by simp [u8s, ordL_length]
      have HOL : Hid _ := hordlen
      clear hordlen HL hrange hi25 ho25 hi23 ho23
      go_wp2_with fail
      go_loopg [7, 8] 32 (fun k s7 s8 wx => ∃ d : Nat, k = 32 - d ∧ d ≤ 32 ∧ s8 = .int .i64 ((d + 1 : Nat) : Int) ∧ s7 = .slice (some ⟨w1.heap.size + 1, 0, none⟩) (lonT L d) 256 ∧
        wx.ownsRow (w1.heap.size + 1) 5 1 s7 (lonT L d) (u8s (ordL L d)) ∧ Below (w1.heap.size + 1) W2 wx)
      case atStart => exact ⟨0, rfl, by omega, rfl, rfl, hown, f10⟩
      case round =>
        clear hown f10
        obtain ⟨d, hk1, hd, rfl, rfl, hown, hbx⟩ := hrel
        have hk2 : Hid _ := hk1
        clear hk1
        by_cases hlt2 : d < 32
        · have hdd : decide ((d : Int) + 1 ≤ 32) = true := by rw [decide_eq_true_eq]; omega
          go_wp2
          go_loopg [7, 9] 256 (fun k s7 s9 wx => ∃ j : Nat, k = 256 - j ∧ j ≤ 256 ∧ s9 = .int .i64 (j : Int) ∧ s7 = .slice (some ⟨w1.heap.size + 1, 0, none⟩) (lonT L d + cntTo L (d + 1) j) 256 ∧
            wx.ownsRow (w1.heap.size + 1) 5 1 s7 (lonT L d + cntTo L (d + 1) j) (u8s (ordL L d ++ rowTo L (d + 1) j)) ∧ Below (w1.heap.size + 1) W2 wx)
          case atStart => exact ⟨0, rfl, by omega, rfl, rfl, by simpa [rowTo, cntTo] using hown, hbx⟩
          case round =>
            clear hown hbx
            obtain ⟨j, hk3, hj, rfl, rfl, hown, hbx⟩ := hrel
            have hk4 : Hid _ := hk3
            clear hk3
            by_cases hlt3 : j < 256
            · have g1 : wr.cell? ⟨w.heap.size, j, none⟩ = some (.int .u8 (L j : Int)) := by rw [hbx.cell (p := ⟨w.heap.size, j, none⟩) (by simp; omega)]; exact f8.cell hlt3
              have hLj := HB.out j hlt3
              by_cases he : L j = d + 1
              · have he' : ((L j : Int) == (d : Int) + 1) = true := by rw [beq_iff_eq]; omega
                have c1 := cntTo_lt L (d + 1) j 256 hlt3 he
                have c2 := lonT_le L (d + 1)
                have c3 : lonT L (d + 1) = lonT L d + cntTo L (d + 1) 256 := rfl
                have C : Hid _ := And.intro c1 (And.intro c2 c3)
                have HE : Hid _ := he
                clear c1 c2 c3 he
                go_wp2_with (first | (at_builtin; refine wpList_append_fits _ rfl _ _ 24 rfl (w1.heap.size + 1) 5 i5 1 Try.underlying24 HI5.out.1 HI5.out.2.2.1 (w1.heap.size + 1) (lonT L d + cntTo L (d + 1) j) 256 (u8s (ordL L d ++ rowTo L (d + 1) j)) rfl ?ao ⟨wr.heap.size, 0, none⟩ 1 1 [.int .u8 (j : Int)] rfl rfl ?ac ?a1 ?ab ?_))
                case ao => exact hown.alloc _
                case ac => exact cell_one_new _ _ _
                case a1 => exact ints_oneCell .u8 [(j : Int)]
                case ab => have := C.out; omega
                intro W4 hown4 hgrow4
                have hb4 : Below (w1.heap.size + 1) W2 W4 := (hbx.alloc (by have := hbx.size; omega) _).grown hgrow4 (by simp; have := hbx.size; omega) (fun k h => by cases h; omega)
                clear hgrow4
                go_wp2_with fail
                go_roundg (256 - (j + 1))
                case measure => have := hk4.out; omega
                case rel =>
                  have e1 : cntTo L (d + 1) (j + 1) = cntTo L (d + 1) j + 1 := by simp only [cntTo]; rw [if_pos HE.out]
                  have e2 : u8s (ordL L d ++ rowTo L (d + 1) (j + 1)) = u8s (ordL L d ++ rowTo L (d + 1) j) ++ [.int .u8 (j : Int)] := by
                    simp only [rowTo, if_pos HE.out, u8s, List.map_append, List.append_assoc]; rfl
                  refine ⟨j + 1, rfl, by omega, by go_num, ?_, ?_, hb4⟩
                  · rw [e1]; rfl
                  · rw [e1, e2]; exact hown4
              · have he' : ((L j : Int) == (d : Int) + 1) = false := by rw [beq_eq_false_iff_ne]; omega
                have HE : Hid _ := he
                clear he
                go_wp2_with fail
                go_roundg (256 - (j + 1))
                case measure => have := hk4.out; omega
                case rel =>
                  have e1 : cntTo L (d + 1) (j + 1) = cntTo L (d + 1) j := by simp only [cntTo]; rw [if_neg HE.out]; rfl
                  have e2 : rowTo L (d + 1) (j + 1) = rowTo L (d + 1) j := by simp only [rowTo, if_neg HE.out, List.append_nil]
                  refine ⟨j + 1, rfl, by omega, by go_num, ?_, ?_, hbx⟩
                  · rw [e1]
                  · rw [e1, e2]; exact hown
            · have hj256 : j = 256 := by omega
              subst hj256
              go_wp2_with fail
              go_roundg (32 - (d + 1))
              case measure => have := hk2.out; omega
              case rel => exact ⟨d + 1, rfl, by omega, by go_num, rfl, hown, hbx⟩
        · have hd32 : d = 32 := by omega
          subst hd32
          have b1 := lonT_le L 32
          have f9' : wr.rowIs g 5 (lonT L 32) (fun i => .int .u8 ((ordL L 32).getD i 0 : Nat)) := f9.of_block (hbx.block _ (by omega))
          have f8' : wr.rowIs w.heap.size 23 256 (fun i => .int .u8 (L i)) := f8.of_block (hbx.block _ (by omega))
          have f5' : wr.rowIs w1.heap.size 25 33 (fun i => .int .i64 (lonT L i)) := f5.of_block (hbx.block _ (by omega))
          have hbw : Below w.heap.size w wr := f6.trans (hbx.mono (by omega))
          clear f5 f6 f8 f9 hk2
          go_wp2_with fail
          go_loopg [10] (lonT L 32) (fun k s10 wx => ∃ j : Nat, k = lonT L 32 - j ∧ j ≤ lonT L 32 ∧ s10 = .int .i64 (j : Int) ∧ ∃ n, wx = wr.drewN n)
          case atStart => exact ⟨0, rfl, by omega, rfl, 0, rfl⟩
          case round =>
            obtain ⟨j, hk5, hj5, rfl, n, rfl⟩ := hrel
            have hk6 : Hid _ := hk5
            clear hk5
            by_cases hlt5 : j < lonT L 32
            · have hjj : decide ((j : Int) < (lonT L 32 : Int)) = true := by rw [decide_eq_true_eq]; omega
              have hjI : (j : Int) < (lonT L 32 : Int) := by omega
              have hxx : (u8s (ordL L 32))[j]? = some (.int .u8 ((ordL L 32).getD j 0 : Nat)) := by
                have hl : j < (ordL L 32).length := by rw [ordL_length]; exact hlt5
                simp [u8s, List.getD, hl]
              have g1 : wr.cell? ⟨g, j, none⟩ = some (.int .u8 ((ordL L 32).getD j 0 : Nat)) := f9'.cell hlt5
              have g2 : wr.cell? ⟨w1.heap.size + 1, j, none⟩ = some (.int .u8 ((ordL L 32).getD j 0 : Nat)) := by
                rw [hown.cellAt j (by omega)]; exact hxx
              clear hxx
              generalize (ordL L 32).getD j 0 = x at *
              go_wp2_with fail
              go_quiet (fail)
              go_wp2_with fail
              go_roundg (lonT L 32 - (j + 1))
              case measure => have := hk6.out; omega
              case rel => exact ⟨j + 1, rfl, by omega, by go_num, _, rfl⟩
            · have hjI : ¬ (j : Int) < (lonT L 32 : Int) := by omega
              go_wp2_with fail
              go_loopg [11] 33 (fun k s11 wx => ∃ d : Nat, k = 33 - d ∧ d ≤ 33 ∧ s11 = .int .i64 (d : Int) ∧ ∃ n, wx = wr.drewN n)
              case atStart => exact ⟨0, rfl, by omega, rfl, _, rfl⟩
              case round =>
                obtain ⟨d, hk7, hd7, rfl, n, rfl⟩ := hrel
                have hk8 : Hid _ := hk7
                clear hk7 hk6
                by_cases hlt7 : d < 33
                · have hdd : decide ((d : Int) ≤ 32) = true := by rw [decide_eq_true_eq]; omega
                  go_wp2_with fail
                  go_loopg [12, 13] 256 (fun k s12 s13 wx => ∃ c : Nat, k = 256 - c ∧ c ≤ 256 ∧ s13 = .int .i64 (c : Int) ∧ s12 = .int .i64 (cleTo L d c : Int) ∧ ∃ n, wx = wr.drewN n)
                  case atStart => exact ⟨0, rfl, by omega, rfl, rfl, _, rfl⟩
                  case round =>
                    obtain ⟨c, hk9, hc9, rfl, rfl, n, rfl⟩ := hrel
                    have hk10 : Hid _ := hk9
                    clear hk9
                    by_cases hlt9 : c < 256
                    · have hcc : decide ((c : Int) < 256) = true := by rw [decide_eq_true_eq]; omega
                      have g1 : wr.cell? ⟨w.heap.size, c, none⟩ = some (.int .u8 (L c : Int)) := f8'.cell hlt9
                      have hLc := HB.out c hlt9
                      have hcl := cleTo_le L d c
                      by_cases h1 : 1 ≤ L c
                      · have h1' : (1 : Int) ≤ (L c : Int) := by omega
                        by_cases h2 : L c ≤ d
                        · have h2' : (L c : Int) ≤ (d : Int) := by omega
                          go_wp2_with fail
                          go_roundg (256 - (c + 1))
                          case measure => have := hk10.out; omega
                          case rel => exact ⟨c + 1, rfl, by omega, by go_num, by simp only [cleTo]; rw [if_pos ⟨h1, h2⟩]; go_num, _, rfl⟩
                        · have h2' : ¬ (L c : Int) ≤ (d : Int) := by omega
                          go_wp2_with fail
                          go_roundg (256 - (c + 1))
                          case measure => have := hk10.out; omega
                          case rel => exact ⟨c + 1, rfl, by omega, by go_num, by simp only [cleTo]; rw [if_neg (by omega)]; go_num, _, rfl⟩
                      · have h1' : ¬ (1 : Int) ≤ (L c : Int) := by omega
                        go_wp2_with fail
                        go_roundg (256 - (c + 1))
                        case measure => have := hk10.out; omega
                        case rel => exact ⟨c + 1, rfl, by omega, by go_num, by simp only [cleTo]; rw [if_neg (by omega)]; go_num, _, rfl⟩
                    · have hc256 : c = 256 := by omega
                      subst hc256
                      have g1 : wr.cell? ⟨w1.heap.size, d, none⟩ = some (.int .i64 (cleTo L d 256 : Int)) := by rw [← lonT_eq]; exact f5'.cell hlt7
                      go_wp2_with fail
                      go_roundg (33 - (d + 1))
                      case measure => have := hk8.out; omega
                      case rel => exact ⟨d + 1, rfl, by omega, by go_num, _, rfl⟩
                · go_wp2_with fail
                  go_ret
                  exact ⟨rfl, below_drewN hbw _⟩
end Go.Proofs.Qxb6602643a
