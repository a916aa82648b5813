/- ZZNoted, walked. -/
import Derived.Test.Qxb6602813aNt
import Derived.BigRegion
namespace Go.Proofs.Qxb6602813a
open Go.RowKit
set_option linter.unusedVariables false

theorem Try.info41z : (Try.prog.info? 41).map (fun i => (i.zero, i.size, i.bytes)) = some (some (.agg #[.int .u32 0, .int .u32 0, .int .u32 0, .int .u32 0]), 4, 16) := by kernel_rfl
theorem run_b41 (v0 v1 v2 v3 : Int) (w : World) : (Instr.build 41 #[(0, .int .u32 v0), (1, .int .u32 v1), (2, .int .u32 v2), (3, .int .u32 v3)]).run Try.prog w = .ok (.agg #[.int .u32 v0, .int .u32 v1, .int .u32 v2, .int .u32 v3]) w := by kernel_rfl

/-- the cells of the entries -/
def rvF (O E F G : Nat → Nat) (x : Nat) : Value := .int .u32 ((if x % 4 = 0 then O (x / 4) else if x % 4 = 1 then E (x / 4) else if x % 4 = 2 then F (x / 4) else G (x / 4) : Nat) : Int)
theorem rvF_at (O E F G : Nat → Nat) (j i : Nat) (hi : i < 4) : (rvL (O j) (E j) (F j) (G j))[i]? = some (rvF O E F G (j * 4 + i)) := by
  have e1 : (j * 4 + i) / 4 = j := by omega
  have e2 : (j * 4 + i) % 4 = i := by omega
  unfold rvF
  rw [e1, e2]
  match i, hi with
  | 0, _ | 1, _ | 2, _ | 3, _ => rfl

theorem rvF_0 (O E F G : Nat → Nat) (j : Nat) : rvF O E F G (j * 4) = .int .u32 (O j : Nat) := (Option.some.inj (rvF_at O E F G j 0 (by omega))).symm
theorem rvF_1 (O E F G : Nat → Nat) (j : Nat) : rvF O E F G (j * 4 + 1) = .int .u32 (E j : Nat) := (Option.some.inj (rvF_at O E F G j 1 (by omega))).symm
theorem rvF_2 (O E F G : Nat → Nat) (j : Nat) : rvF O E F G (j * 4 + 2) = .int .u32 (F j : Nat) := (Option.some.inj (rvF_at O E F G j 2 (by omega))).symm
theorem rvF_3 (O E F G : Nat → Nat) (j : Nat) : rvF O E F G (j * 4 + 3) = .int .u32 (G j : Nat) := (Option.some.inj (rvF_at O E F G j 3 (by omega))).symm
theorem results_tmp5 {fn : Func} {t u v x y : Tmp} (h : fn.results = #[.tmp t, .tmp u, .tmp v, .tmp x, .tmp y]) (tmps : Array Value) (P : Program) (w : World) :
    (results fn tmps).run P w = .ok (.tuple #[tmps.getD t undef, tmps.getD u undef, tmps.getD v undef, tmps.getD x undef, tmps.getD y undef]) w := by
  simp [results, h]
def cnA (v : Value) : Array Value := #[.slice none 0 0, .int .i64 0, .slice none 0 0, .int .i64 0, .slice none 0 0, .int .i64 0, v, .slice none 0 0, .bool false]
theorem run_b46 (a : Option Addr) (n c : Nat) (w : World) : (Instr.build 46 #[(5, .slice a n c)]).run Try.prog w = .ok (.agg (cnA (.slice a n c))) w := by kernel_rfl

def ZzPost (n : Nat) (O E F G : Nat → Nat) (a : Int) (e : Ending) : Prop :=
  (∃ i, i < n ∧ (O i : Int) = a ∧ (∀ j, j < i → (O j : Int) < a) ∧ e = .returned (.tuple #[.int .u32 (O i : Nat), .int .u32 (E i : Nat), .int .u32 (F i : Nat), .int .u32 (G i : Nat), .bool true])) ∨
  ((∀ i, i < n → (O i : Int) ≠ a) ∧ e = .returned (.tuple #[.int .u32 0, .int .u32 0, .int .u32 0, .int .u32 0, .bool false]))

set_option maxRecDepth 100000 in
set_option maxHeartbeats 1000000 in
theorem zzNoted_any (w : World) (a0 a1 a2 a3 : Option Addr) (c0 c1 c2 c3 g0 g1 g2 g3 n : Nat) (O E F G : Nat → Nat) (a : Int)
    (h0 : 0 < n → a0 = some ⟨g0, 0, none⟩) (h1 : 0 < n → a1 = some ⟨g1, 0, none⟩) (h2 : 0 < n → a2 = some ⟨g2, 0, none⟩) (h3 : 0 < n → a3 = some ⟨g3, 0, none⟩)
    (k0 : ∀ i, i < n → w.cell? ⟨g0, i, none⟩ = some (.int .u32 (O i : Nat))) (k1 : ∀ i, i < n → w.cell? ⟨g1, i, none⟩ = some (.int .u32 (E i : Nat)))
    (k2 : ∀ i, i < n → w.cell? ⟨g2, i, none⟩ = some (.int .u32 (F i : Nat))) (k3 : ∀ i, i < n → w.cell? ⟨g3, i, none⟩ = some (.int .u32 (G i : Nat)))
    (hn : n ≤ 65536) (hO : ∀ i, i < n → O i < 4294967296)
    (hs : ∀ i j, i ≤ j → j < n → O i ≤ O j) (ha1 : -9223372036854775808 ≤ a) (ha2 : a < 9223372036854775808) :
    Calls Try.prog 12 #[.slice a0 n c0, .slice a1 n c1, .slice a2 n c2, .slice a3 n c3, .int .i64 a] w fun e w' => Below w.heap.size w w' ∧ ZzPost n O E F G a e := by
  obtain ⟨i41, hi41, hz41, hs41, hb41⟩ := info_parts Try.info41z
  have HI41 : Hid _ := And.intro hi41 (And.intro hz41 (And.intro hs41 hb41))
  have K0 : Hid _ := k0
  have K1 : Hid _ := k1
  have K2 : Hid _ := k2
  have K3 : Hid _ := k3
  have H0 : Hid _ := h0
  have H1 : Hid _ := h1
  have H2 : Hid _ := h2
  have H3 : Hid _ := h3
  have HO : Hid _ := hO
  have HS : Hid _ := hs
  clear hi41 hz41 hs41 hb41 h0 h1 h2 h3 k0 k1 k2 k3 hO hs
  go_enter Try.func12, Try.ntmps12
  go_wp2_with (first | (at_make; refine wpList_make_full _ rfl _ _ 39 rfl w.heap.size 41 i41 _ 4 Try.underlying39 HI41.out.1 HI41.out.2.1 HI41.out.2.2.1 _ _ _ _ n rfl rfl rfl rfl ?mb ?ml ?mbase ?_))
  case mb => rw [HI41.out.2.2.2]; omega
  case ml => unfold maxLen; omega
  case mbase => exact Nat.le_refl _
  intro W2 hown hgr
  obtain ⟨Z, hz⟩ := rowPre_own hown
  have hb2 : Below w.heap.size w W2 := (Below.refl _ _).grown hgr (Nat.le_refl _) (fun k h => by cases h)
  clear hown hgr
  go_wp2_with fail
  go_loopg [16] n (fun k s16 wx => ∃ j : Nat, k = n - j ∧ j ≤ n ∧ s16 = .int .i64 j ∧ Below w.heap.size w wx ∧ rowPre wx w.heap.size 41 (n * 4) (fun x => if x < j * 4 then rvF O E F G x else Z x))
  case atStart => exact ⟨0, rfl, by omega, rfl, hb2, hz.congr (fun i _ => by simp)⟩
  case round =>
    clear hb2 hz
    obtain ⟨j, hk0, hj, rfl, hbx, hz⟩ := hrel
    have hk : Hid _ := hk0
    clear hk0
    rename World => V
    by_cases hlt : j < n
    · have hltI : (j : Int) < (n : Int) := by omega
      have e0 := H0.out (by omega)
      have e1 := H1.out (by omega)
      have e2 := H2.out (by omega)
      have e3 := H3.out (by omega)
      subst e0 e1 e2 e3
      have cell : ∀ {g : Nat} {i : Nat} {v : Value}, w.cell? ⟨g, i, none⟩ = some v → V.cell? ⟨g, i, none⟩ = some v := fun h => by rw [hbx.cell (block_lt_of_cell h)]; exact h
      have f0 := cell (K0.out j hlt)
      have f1 := cell (K1.out j hlt)
      have f2 := cell (K2.out j hlt)
      have f3 := cell (K3.out j hlt)
      have l0 := block_lt_of_cell (K0.out j hlt)
      have l1 := block_lt_of_cell (K1.out j hlt)
      have l2 := block_lt_of_cell (K2.out j hlt)
      have l3 := block_lt_of_cell (K3.out j hlt)
      clear cell
      have hb41 := run_b41
      have t0 : V.cell? ⟨w.heap.size, j * 4, none⟩ = _ := hz.cell (i := j * 4) (by omega)
      have t1 := hz.cell (i := j * 4 + 1) (by omega)
      have t2 := hz.cell (i := j * 4 + 2) (by omega)
      have t3 := hz.cell (i := j * 4 + 3) (by omega)
      have z0 := hz.frozen (j * 4)
      have z1 := hz.frozen (j * 4 + 1)
      have z2 := hz.frozen (j * 4 + 2)
      have z3 := hz.frozen (j * 4 + 3)
      go_upto_region 5 with fail
      go_region
      go_wp2_with fail
      go_roundg (n - (j + 1))
      case measure => have := hk.out; omega
      case rel =>
        refine ⟨j + 1, rfl, by omega, by go_num, ?_, ?_⟩
        · exact ((((hbx.setCell (p := ⟨w.heap.size, j * 4, none⟩) (Nat.le_refl _) _).setCell (p := ⟨w.heap.size, j * 4 + 1, none⟩) (Nat.le_refl _) _).setCell (p := ⟨w.heap.size, j * 4 + 2, none⟩) (Nat.le_refl _) _).setCell (p := ⟨w.heap.size, j * 4 + 3, none⟩) (Nat.le_refl _) _).drew
        · refine (((((hz.set (j * 4) _).set (j * 4 + 1) _).set (j * 4 + 2) _).set (j * 4 + 3) _).drew).congr (fun i hi => ?_)
          by_cases y3 : i = j * 4 + 3
          · rw [if_pos y3, if_pos (by omega), y3, rvF_3]
          rw [if_neg y3]
          by_cases y2 : i = j * 4 + 2
          · rw [if_pos y2, if_pos (by omega), y2, rvF_2]
          rw [if_neg y2]
          by_cases y1 : i = j * 4 + 1
          · rw [if_pos y1, if_pos (by omega), y1, rvF_1]
          rw [if_neg y1]
          by_cases y0 : i = j * 4
          · rw [if_pos y0, if_pos (by omega), y0, rvF_0]
          rw [if_neg y0]
          by_cases y : i < j * 4
          · rw [if_pos y, if_pos (by omega)]
          · rw [if_neg y, if_neg (by omega)]
    · have hltI : ¬ (j : Int) < (n : Int) := by omega
      have hb46 := run_b46
      go_upto_region 7 with fail
      have hj' : j = n := by omega
      have hsz := hbx.size
      have b1 := hbx.alloc hsz (Obj.cells (cnA (.slice (some ⟨w.heap.size, 0, none⟩) n n)) 46)
      have hq : (V.alloc (Obj.cells (cnA (.slice (some ⟨w.heap.size, 0, none⟩) n n)) 46)).cell? ⟨V.heap.size, 6, none⟩ = some (.slice (some ⟨w.heap.size, 0, none⟩) n n) := by simp only [World.cell?, heap_alloc_new]; rfl
      have hR : ∀ i, i < n → (V.alloc (Obj.cells (cnA (.slice (some ⟨w.heap.size, 0, none⟩) n n)) 46)).rangeAt w.heap.size (i * 4) (rvL (O i) (E i) (F i) (G i)) := fun i hi =>
        rangeAt_rowPre (hz.alloc _) (i * 4) 4 (by omega) _ rfl (fun t ht => by rw [if_pos (by omega)]; exact rvF_at O E F G i t ht)
      have HRR : Hid _ := hR
      clear hR hz hbx
      change Code.wp _ _ _ _ (V.alloc (Obj.cells (cnA (.slice (some ⟨w.heap.size, 0, none⟩) n n)) 46))
      generalize V.alloc (Obj.cells (cnA (.slice (some ⟨w.heap.size, 0, none⟩) n n)) 46) = V1 at *
      go_wp2_with fail
      refine (noted_any V1 V.heap.size w.heap.size n n O E F G a hq HRR.out hn HO.out HS.out ha1 ha2).mono ?_
      rintro e V2 ⟨b2, hp⟩
      have b3 : Below w.heap.size w V2 := b1.trans (b2.mono b1.size)
      have hV2 := b3.size
      clear b1 b2
      obtain ⟨o0, o1, o2, o3, bb, rfl, hfin⟩ : ∃ (o0 o1 o2 o3 : Nat) (bb : Bool), e = .returned (.tuple #[.agg (rvL o0 o1 o2 o3).toArray, .bool bb]) ∧ ZzPost n O E F G a (.returned (.tuple #[.int .u32 (o0 : Nat), .int .u32 (o1 : Nat), .int .u32 (o2 : Nat), .int .u32 (o3 : Nat), .bool bb])) := by
        rcases hp with ⟨i, hi, hia, hlo, rfl⟩ | ⟨hno, rfl⟩
        · exact ⟨O i, E i, F i, G i, true, rfl, .inl ⟨i, hi, hia, hlo, rfl⟩⟩
        · exact ⟨0, 0, 0, 0, false, rfl, .inr ⟨hno, rfl⟩⟩
      have HF : Hid _ := hfin
      clear hfin hp
      have hone := all_oneCell_toArray (rvL_one o0 o1 o2 o3)
      go_upto_region 8 with (first | refine wpList_alloc rfl 41 rfl _ Try.zero41 ?_ | refine wpList_store_row rfl 41 _ _ rfl V2.heap.size (rvL o0 o1 o2 o3).toArray rfl rfl 41 #[.int .u32 0, .int .u32 0, .int .u32 0, .int .u32 0] (heap_alloc_new _ _) Try.size41 rfl hone ?_)
      have hc : ∀ i v, (rvL o0 o1 o2 o3)[i]? = some v → ((V2.alloc (Obj.cells #[.int .u32 0, .int .u32 0, .int .u32 0, .int .u32 0] 41)).setRow V2.heap.size (rvL o0 o1 o2 o3).toArray).cell? ⟨V2.heap.size, i, none⟩ = some v := fun i v hv => by
        rw [cell_setRow_same _ _ _ _ _ _ _ (heap_alloc_new _ _), List.getElem?_toArray, hv]
      have b4 := below_setRow (b3.alloc hV2 (Obj.cells #[.int .u32 0, .int .u32 0, .int .u32 0, .int .u32 0] 41)) hV2 (rvL o0 o1 o2 o3).toArray
      generalize (V2.alloc (Obj.cells #[.int .u32 0, .int .u32 0, .int .u32 0, .int .u32 0] 41)).setRow V2.heap.size (rvL o0 o1 o2 o3).toArray = V3 at *
      have x0 := hc 0 _ rfl
      have x1 := hc 1 _ rfl
      have x2 := hc 2 _ rfl
      have x3 := hc 3 _ rfl
      clear hc hone
      go_quiet (fail)
      go_wp2_with fail
      refine bodyPost_ret (results_tmp5 rfl _ _ _) rfl ?_
      exact ⟨below_drewN b4 _, HF.out⟩
end Go.Proofs.Qxb6602813a
