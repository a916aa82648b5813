/- newShape, walked. -/
import Derived.Test.Qxb6602643aNs3
import Derived.BigRegion
namespace Go.Proofs.Qxb6602643a
open Go.RowKit
set_option linter.unusedVariables false

set_option maxRecDepth 100000 in
set_option maxHeartbeats 4000000 in
theorem newShape_any (w : World) (cb lb : Nat) (C L : Nat → Nat) (hcb : cb < w.heap.size) (hlb : lb < w.heap.size)
    (hC : ∀ i, i < 256 → w.cell? ⟨cb, i, none⟩ = some (.int .u64 (C i : Int))) (hC64 : ∀ i, i < 256 → C i < 18446744073709551616)
    (hL : ∀ i, i < 256 → w.cell? ⟨lb, i, none⟩ = some (.int .u8 (L i : Int))) (hm : ∀ i, i < 256 → L i ≤ 32) (hK : SK L (lonT L 32) ≤ 2 ^ 32) :
    Calls Try.prog 23 #[.pointer (some ⟨cb, 0, none⟩), .pointer (some ⟨lb, 0, none⟩)] w (NsPost L C w) := by
  have hi25 : Hid ((Try.prog.info? 25).map (·.size) = some (lonV L).length) := by rw [Try.info25, lonV_length]; rfl
  have ho25 : ∀ v ∈ lonV L, v.oneCell' = true := fun v hv => by obtain ⟨j, _, rfl⟩ := tab_mem hv; rfl
  have HC : Hid _ := hC
  have HC64 : Hid _ := hC64
  have HL : Hid _ := hL
  have HB : Hid _ := hm
  have HK : Hid _ := hK
  clear hC hC64 hL hm hK
  go_enter Try.func23, Try.ntmps23
  go_wp2_with (first | refine wpList_build0 rfl 65 rfl z65 Try.built65 ?_ | refine wpList_box rfl 65 _ rfl (.agg z65) rfl z65 rfl ?_)
  refine (codeOrder_any _ lb L (by simp; omega) ?_ HB.out).mono ?_
  · intro i hi
    rw [World.cell?_alloc_lt _ _ _ hlb]
    exact HL.out i hi
  rintro e w1 ⟨g, rfl, hg, hord, hbel1⟩
  simp only [World.size_alloc] at hg hbel1
  have hsz1 := hbel1.size
  simp only [World.size_alloc] at hsz1
  have hglt := hord.lt
  have f0 : w1.rowIs w.heap.size 65 513 (shF (.slice none 0 0) (fun _ => .slice none 0 0) (fun _ => 0)) :=
    ⟨z65, by rw [hbel1.block _ (by omega)]; exact heap_alloc_new _ _, by simp [z65], z65_row⟩
  have f1 : Below w.heap.size w w1 := ((Below.refl _ _).alloc (Nat.le_refl _) _).trans (hbel1.mono (by omega))
  clear hbel1
  go_wp2_with (first | refine wpList_alloc rfl 25 rfl _ Try.zero25 ?_ | refine wpList_store_row rfl 25 _ _ rfl w1.heap.size (lonV L).toArray rfl rfl 25 ?pold ?pblk ?pi ?ps ?pone ?_)
  case pblk => exact heap_alloc_new _ _
  case pi => simpa using hi25.out
  case ps => simp [lonV_length]
  case pone => exact all_oneCell_toArray ho25
  have f4 : (w1.alloc (Obj.cells (Array.replicate 33 (Value.int IntKind.i64 0)) 25)).rowIs w1.heap.size 25 33 (fun _ => .int .i64 0) :=
    ⟨_, heap_alloc_new _ _, by simp, fun i hi => by simp [hi]⟩
  have f5 := rowIs_setRow f4 (lonV L).toArray (by simp [lonV_length]) (fun i => .int .i64 (lonT L i)) (fun i hi => by rw [List.getElem?_toArray]; exact tab_get hi)
  have f6 := below_setRow (g := w1.heap.size) (f1.alloc (by omega) (Obj.cells (Array.replicate 33 (Value.int IntKind.i64 0)) 25)) (by omega) (lonV L).toArray
  have f7 : ((w1.alloc (Obj.cells (Array.replicate 33 (Value.int IntKind.i64 0)) 25)).setRow w1.heap.size (lonV L).toArray).heap.size = w1.heap.size + 1 := by simp
  have f8 := rowIs_setRow_other (f0.alloc (Obj.cells (Array.replicate 33 (Value.int IntKind.i64 0)) 25)) (g := w1.heap.size) (by omega) (lonV L).toArray
  have f9 := rowIs_setRow_other (hord.alloc (Obj.cells (Array.replicate 33 (Value.int IntKind.i64 0)) 25)) (g := w1.heap.size) (by omega) (lonV L).toArray
  clear f0 f1 f4 hord
  generalize hM : w1.heap.size = M at *
  generalize (w1.alloc (Obj.cells (Array.replicate 33 (Value.int IntKind.i64 0)) 25)).setRow M (lonV L).toArray = W2 at *
  have hB2 : NsB L w g M W2 := ⟨f6, f9, f5, by omega, by omega⟩
  clear f5 f6 f9 hM w1
  have b32 := lonT_le L 32
  -- the codes
  go_loopg [8, 9, 10, 39] (lonT L 32) (fun k s8 s9 s10 s39 wr => ∃ i : Nat, k = lonT L 32 - i ∧ i ≤ lonT L 32 ∧ s39 = .int .i64 i ∧ s8 = .int .u64 (cdT L i : Nat) ∧ s9 = .int .u8 (lnT L i : Nat) ∧ s10 = .int .i64 (offT L i : Nat) ∧
    NsB L w g M wr ∧ wr.heap.size = M + 1 ∧ wr.rowIs w.heap.size 65 513 (shF (.slice none 0 0) (fun _ => .slice none 0 0) (codT L i)))
  case atStart => exact ⟨0, rfl, by omega, rfl, rfl, rfl, rfl, hB2, f7, f8.congr (fun x hx => by unfold shF codT; simp)⟩
  case round =>
    clear hB2 f7 f8
    obtain ⟨i, hk0, hi, rfl, rfl, rfl, rfl, hB, hsz, hsh⟩ := hrel
    have hk : Hid _ := hk0
    clear hk0
    by_cases hlt : i < lonT L 32
    · obtain ⟨a1, a2, a3, a4⟩ := oc_facts L i hlt
      obtain ⟨s1, s2, s3, s4⟩ := code_step L i HK.out hlt
      have o1 := offT_le L i hi
      have g1 : wr.cell? ⟨g, i, none⟩ = some (.int .u8 (oc L i : Int)) := hB.ord.cell hlt
      have g2 : wr.cell? ⟨lb, oc L i, none⟩ = some (.int .u8 (ol L i : Int)) := by rw [hB.bel.cell (p := ⟨lb, oc L i, none⟩) hlb]; exact HL.out _ a1
      have g3 : wr.cell? ⟨w.heap.size, 257 + oc L i, none⟩ = some (.int .u64 (codT L i (oc L i) : Nat)) := by rw [hsh.cell (by omega), shF_code]
      have g4 : wr.frozen? ⟨w.heap.size, 257 + oc L i, none⟩ = false := hsh.frozen _
      have S2 : Hid _ := s2
      have A4 : Hid _ := a4
      have hltI : (i : Int) < (lonT L 32 : Int) := by omega
      clear s2 a4
      generalize hcd : cdT L i = x at *
      generalize hln : lnT L i = y at *
      generalize hof : offT L i = z at *
      have HX : Hid _ := And.intro hcd (And.intro hln hof)
      clear hcd hln hof
      by_cases h0 : 0 < i
      · have h0' : (0 : Int) < (i : Int) := by omega
        go_wp2
        go_roundg (lonT L 32 - (i + 1))
        case measure => have := hk.out; omega
        case rel =>
          have e1 := shl_val1 x (ol L i) y _ (by have := S2.out; rwa [if_pos h0] at this) s3
          rw [e1]
          refine ⟨i + 1, rfl, by omega, by go_num, by rw [cdT_succ], by rw [lnT_succ], ?_, hB.setCell (.inl rfl) _, by simpa using hsz, row_code hlt hsh⟩
          rw [offT_succ, HX.out.2.2]; rfl
      · have h0' : ¬ (0 : Int) < (i : Int) := by omega
        go_wp2
        go_roundg (lonT L 32 - (i + 1))
        case measure => have := hk.out; omega
        case rel =>
          have e1 := shl_val x (ol L i) y _ (by have := S2.out; rwa [if_neg h0, Nat.add_zero] at this) s3
          rw [e1]
          refine ⟨i + 1, rfl, by omega, by go_num, by rw [cdT_succ], by rw [lnT_succ], ?_, hB.setCell (.inl rfl) _, by simpa using hsz, row_code hlt hsh⟩
          rw [offT_succ, HX.out.2.2]; rfl
    · have hin : i = lonT L 32 := by omega
      have hltI : ¬ (i : Int) < (lonT L 32 : Int) := by omega
      clear hk
      subst hin
      have o1 := offT_le L (lonT L 32) (Nat.le_refl _)
      have hmk := run_make_row' (P := Try.prog) 40 21 (.int .i32 0) 4 Try.underlying40 Try.info21 rfl .i64 .i64 (offT L (lonT L 32)) (by omega) (by omega)
      go_wp2_with fail
      have hB2 := hB.alloc (Obj.cells (madeCells #[Value.int IntKind.i32 0] (offT L (lonT L 32))) 21)
      have f7 : (wr.alloc (Obj.cells (madeCells #[Value.int IntKind.i32 0] (offT L (lonT L 32))) 21)).heap.size = M + 2 := by simp [hsz]
      have f8 := hsh.alloc (Obj.cells (madeCells #[Value.int IntKind.i32 0] (offT L (lonT L 32))) 21)
      have f9 := World.rowIs_made wr (.int .i32 0) (offT L (lonT L 32)) 21
      rw [hsz] at f9
      clear hB hsz hsh hmk
      generalize wr.alloc (Obj.cells (madeCells #[Value.int IntKind.i32 0] (offT L (lonT L 32))) 21) = W3 at *
      clear wr
      -- the paths
      go_loopg [13, 77] (lonT L 32) (fun k s13 s77 wr => ∃ i o : Nat, k = lonT L 32 - i ∧ i ≤ lonT L 32 ∧ s77 = .int .i64 i ∧ s13 = .slice (some ⟨M + 1, o, none⟩) (offT L (lonT L 32) - offT L i) (offT L (lonT L 32) - offT L i) ∧
        (i < lonT L 32 → o = offT L i) ∧
        NsB L w g M wr ∧ wr.heap.size = M + 2 ∧ wr.rowIs w.heap.size 65 513 (shF (.slice none 0 0) (pthT L (M + 1) i) (codT L (lonT L 32))) ∧ wr.rowIs (M + 1) 21 (offT L (lonT L 32)) (fun _ => .int .i32 0))
      case atStart => exact ⟨0, 0, rfl, by omega, rfl, rfl, fun _ => rfl, hB2, f7, f8.congr (fun x hx => by unfold shF pthT; simp), f9⟩
      case round =>
        clear hB2 f7 f8 f9
        obtain ⟨i, o, hk0, hi, rfl, rfl, ho, hB, hsz, hsh, hpb⟩ := hrel
        have hk : Hid _ := hk0
        clear hk0
        by_cases hlt2 : i < lonT L 32
        · obtain ⟨a1, a2, a3, a4⟩ := oc_facts L i hlt2
          obtain rfl := ho hlt2
          clear ho
          have o3 := offT_mono L (i + 1) (lonT L 32) (by omega)
          rw [offT_succ] at o3
          have g1 : wr.cell? ⟨g, i, none⟩ = some (.int .u8 (oc L i : Int)) := hB.ord.cell hlt2
          have g2 : wr.cell? ⟨lb, oc L i, none⟩ = some (.int .u8 (ol L i : Int)) := by rw [hB.bel.cell (p := ⟨lb, oc L i, none⟩) hlb]; exact HL.out _ a1
          have g3 : wr.cell? ⟨w.heap.size, 1 + oc L i, none⟩ = some (pthT L (M + 1) i (oc L i)) := by rw [hsh.cell (by omega), shF_path _ _ _ _ a1]
          have g4 : wr.frozen? ⟨w.heap.size, 1 + oc L i, none⟩ = false := hsh.frozen _
          have A4 : Hid _ := a4
          have hltI : (i : Int) < (lonT L 32 : Int) := by omega
          generalize hr : offT L (lonT L 32) - offT L i = r at *
          have hlr : ol L i ≤ r := by omega
          have hlr' : (ol L i : Int) ≤ (r : Int) := by omega
          have HR : Hid _ := And.intro hr o3
          clear a4 hr o3
          by_cases hre : ol L i = r
          · subst hre
            go_wp2_with fail
            go_big_region
            go_wp2_with fail
            go_roundg (lonT L 32 - (i + 1))
            case measure => have := hk.out; omega
            case rel =>
              refine ⟨i + 1, offT L i, rfl, by omega, by go_num, ?_, ?_, (hB.setCell (.inl rfl) _).drew, by simpa using hsz, (row_path hlt2 hsh).drew, (hpb.setOther (by simp; omega) _).drew⟩
              · have := HR.out
                rw [offT_succ, show offT L (lonT L 32) - (offT L i + ol L i) = 0 from by omega]
              · intro h
                exfalso
                have h2 := offT_mono L (i + 2) (lonT L 32) (by omega)
                have h3 := (oc_facts L (i + 1) (by omega)).2.1
                rw [offT_succ, offT_succ] at h2
                have := HR.out
                omega
          · have hre' : ¬ r = ol L i := fun h => hre h.symm
            go_wp2_with fail
            go_big_region
            go_wp2_with fail
            go_roundg (lonT L 32 - (i + 1))
            case measure => have := hk.out; omega
            case rel =>
              refine ⟨i + 1, offT L i + ol L i, rfl, by omega, by go_num, ?_, fun _ => offT_succ L i, (hB.setCell (.inl rfl) _).drew, by simpa using hsz, (row_path hlt2 hsh).drew, (hpb.setOther (by simp; omega) _).drew⟩
              have := HR.out
              rw [offT_succ, show offT L (lonT L 32) - (offT L i + ol L i) = r - ol L i from by omega]
        · have hin : i = lonT L 32 := by omega
          have hltI : ¬ (i : Int) < (lonT L 32 : Int) := by omega
          clear hk ho
          subst hin
          obtain ⟨i67, hi67, hz67, hs67, hb67⟩ := info_parts Try.info67
          have HI67 : Hid _ := And.intro hi67 (And.intro hz67 (And.intro hs67 hb67))
          clear hi67 hz67 hs67 hb67
          go_upto_region 20 with fail
          go_cut [] from 8 (fun wc => ∃ cap, NsC L w g M [] (M + 2) cap (fun _ => 0) wc)
          case first =>
            have g3 : wr.cell? ⟨w.heap.size, 0, none⟩ = some (.slice none 0 0) := hsh.cell (by omega)
            have g4 : wr.frozen? ⟨w.heap.size, 0, none⟩ = false := hsh.frozen _
            have a1 := hB.hg
            have a2 := hB.hgM
            have mk : ∀ cap W5, W5.ownsRow (M + 2) 67 9 (.slice (some ⟨M + 2, 0, none⟩) 0 cap) 0 [] → wr.grownBy W5 none →
                W5.cell? ⟨w.heap.size, 0, none⟩ = some (.slice none 0 0) ∧ W5.frozen? ⟨w.heap.size, 0, none⟩ = false ∧ NsC L w g M [] (M + 2) cap (fun _ => 0) (W5.setCell ⟨w.heap.size, 0, none⟩ (.slice (some ⟨M + 2, 0, none⟩) 0 cap)) := by
              intro cap W5 hown hgr
              have hsh' := hsh.of_block (hgr.block _ (by omega) (by simp))
              have hpb' := hpb.of_block (hgr.block _ (by omega) (by simp))
              have hB' := hB.grown hgr (fun k e => by cases e)
              refine ⟨hsh'.cell (by omega), hsh'.frozen _, hB'.setCell (.inl rfl) _, ?_, ownsRow_setCell_below hown (by show w.heap.size < M + 2; omega) _, hpb'.setOther (by show M + 1 ≠ w.heap.size; omega) _⟩
              refine (hsh'.set 0 _).congr ?_
              intro i hi
              by_cases e : i = 0
              · rw [if_pos e]; unfold shF; rw [if_pos e]; rfl
              · rw [if_neg e]; unfold shF; rw [if_neg e, if_neg e]
            have MK : Hid _ := mk
            clear mk hsh hpb hB
            by_cases hn0 : lonT L 32 = 0
            · have hn1 : (lonT L 32 : Int) - 1 < 0 := by omega
              have hn2 : ¬ (0 : Int) ≤ (lonT L 32 : Int) - 1 := by omega
              clear hn0
              go_wp2_with (first | (at_make; refine wpList_make_own _ rfl _ _ 63 rfl (M + 2) 67 i67 _ 9 Try.underlying63 HI67.out.1 HI67.out.2.1 HI67.out.2.2.1 _ _ _ 0 rfl rfl rfl ?mb1 ?ml1 ?mbase1 ?_))
              intro W5 hown hgr
              obtain ⟨c1, c2, c3⟩ := MK.out _ W5 hown hgr
              clear hown hgr
              go_wp2_with fail
              go_meet
              case rel => exact ⟨_, c3⟩
            · have hn1 : ((lonT L 32 - 1 : Nat) : Int) = (lonT L 32 : Int) - 1 := by omega
              have hn2 : (0 : Int) ≤ (lonT L 32 : Int) - 1 := by omega
              have HN : Hid _ := hn1
              clear hn1
              go_wp2_with (first | (at_make; refine wpList_make_own _ rfl _ _ 63 rfl (M + 2) 67 i67 _ 9 Try.underlying63 HI67.out.1 HI67.out.2.1 HI67.out.2.2.1 _ _ _ (lonT L 32 - 1) rfl rfl HN.out.symm ?mb2 ?ml2 ?mbase2 ?_))
              case mb2 => rw [HI67.out.2.2.2]; omega
              case ml2 => unfold maxLen; omega
              intro W5 hown hgr
              obtain ⟨c1, c2, c3⟩ := MK.out _ W5 hown hgr
              clear hown hgr
              go_wp2_with fail
              go_meet
              case rel => exact ⟨_, c3⟩
          case rest =>
            obtain ⟨cap, hD⟩ := hcut
            go_step
            exact ns_tail3 hcb hlb HC.out HC64.out HL.out HK.out hD
end Go.Proofs.Qxb6602643a
