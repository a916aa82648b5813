/- noted, walked. -/
import Derived.Test.Qxb6602813aRows
import Derived.Test.Qxb6602813aKit
namespace Go.Proofs.Qxb6602813a
open Go.RowKit
set_option linter.unusedVariables false

theorem Try.zero41 : (Try.prog.info? 41).map (fun i => i.zero.map Value.cells) = some (some #[.int .u32 0, .int .u32 0, .int .u32 0, .int .u32 0]) := by kernel_rfl
theorem Try.size41 : (Try.prog.info? 41).map (·.size) = some 4 := by kernel_rfl
theorem run_b41_0 (w : World) : (Instr.build 41 #[]).run Try.prog w = .ok (.agg #[.int .u32 0, .int .u32 0, .int .u32 0, .int .u32 0]) w := by kernel_rfl

theorem results_cell_tmp1 {P : Program} {fn : Func} {u p : Tmp} {ty : TypeId} (h : fn.results = #[.cell p ty, .tmp u]) (tmps : Array Value) (w : World) (g : Nat) (v : Value)
    (hp : tmps.getD p undef = .pointer (some ⟨g, 0, none⟩)) (hl : (loadVar ty ⟨g, 0, none⟩).run P w = .ok v w) :
    (results fn tmps).run P w = .ok (.tuple #[v, tmps.getD u undef]) w := by
  have hp' : tmps[p]?.getD undef = .pointer (some ⟨g, 0, none⟩) := by simpa using hp
  simp [results, h, hp', asAddr, hl]

/-- the four cells of an entry -/
def rvL (o e f l : Nat) : List Value := [.int .u32 (o : Nat), .int .u32 (e : Nat), .int .u32 (f : Nat), .int .u32 (l : Nat)]
theorem rvL_one (o e f l : Nat) : ∀ v ∈ rvL o e f l, v.oneCell' = true := by
  intro u hu
  simp only [rvL, List.mem_cons, List.not_mem_nil, or_false] at hu
  rcases hu with rfl | rfl | rfl | rfl <;> rfl

/-- what noted answers -/
def NtPost (n : Nat) (O E F G : Nat → Nat) (a : Int) (e : Ending) : Prop :=
  (∃ i, i < n ∧ (O i : Int) = a ∧ (∀ j, j < i → (O j : Int) < a) ∧ e = .returned (.tuple #[.agg (rvL (O i) (E i) (F i) (G i)).toArray, .bool true])) ∨
  ((∀ i, i < n → (O i : Int) ≠ a) ∧ e = .returned (.tuple #[.agg (rvL 0 0 0 0).toArray, .bool false]))

set_option maxRecDepth 100000 in
set_option maxHeartbeats 1000000 in
theorem noted_any (w : World) (q R n c : Nat) (O E F G : Nat → Nat) (a : Int) (hq : w.cell? ⟨q, 6, none⟩ = some (.slice (some ⟨R, 0, none⟩) n c))
    (hR : ∀ i, i < n → w.rangeAt R (i * 4) (rvL (O i) (E i) (F i) (G i))) (hn : n ≤ 65536) (hO : ∀ i, i < n → O i < 4294967296)
    (hs : ∀ i j, i ≤ j → j < n → O i ≤ O j) (ha1 : -9223372036854775808 ≤ a) (ha2 : a < 9223372036854775808) :
    Calls Try.prog 20 #[.pointer (some ⟨q, 0, none⟩), .int .i64 a] w fun e w' => Below w.heap.size w w' ∧ NtPost n O E F G a e := by
  have hqlt := block_lt_of_cell hq
  have HR : Hid _ := hR
  have HO : Hid _ := hO
  have HS : Hid _ := hs
  clear hR hO hs
  go_enter Try.func20, Try.ntmps20
  go_upto_region 1 with (first | refine wpList_alloc rfl 41 rfl _ Try.zero41 ?_)
  have b1 := (Below.refl w.heap.size w).alloc (Nat.le_refl _) (Obj.cells #[.int .u32 0, .int .u32 0, .int .u32 0, .int .u32 0] 41)
  have r1 : (w.alloc (Obj.cells #[.int .u32 0, .int .u32 0, .int .u32 0, .int .u32 0] 41)).heap[w.heap.size]? = some (.cells #[.int .u32 0, .int .u32 0, .int .u32 0, .int .u32 0] 41 (0, 0)) := heap_alloc_new _ _
  generalize w.alloc (Obj.cells #[.int .u32 0, .int .u32 0, .int .u32 0, .int .u32 0] 41) = W at *
  have q1 : W.cell? ⟨q, 6, none⟩ = some (.slice (some ⟨R, 0, none⟩) n c) := by rw [b1.cell (p := ⟨q, 6, none⟩) hqlt]; exact hq
  go_quiet (fail)
  go_wp2_with fail
  go_loopg [6, 7, 8] n (fun k s6 s7 s8 wx => ∃ lo hi : Nat, k = hi - lo ∧ lo ≤ hi ∧ hi ≤ n ∧ s6 = .int .i64 lo ∧ s7 = .int .i64 hi ∧ (∀ i, i < lo → (O i : Int) < a) ∧ (∀ i, hi ≤ i → i < n → a ≤ (O i : Int)) ∧ ∃ m, wx = W.drewN m)
  case atStart => exact ⟨0, n, by omega, by omega, by omega, rfl, rfl, fun i hi => by omega, fun i h1 h2 => by omega, _, rfl⟩
  case round =>
    obtain ⟨lo, hi, hk0, hlh, hhn, rfl, rfl, hlow, hhigh, m, rfl⟩ := hrel
    have hk : Hid _ := hk0
    have HLOW : Hid _ := hlow
    have HHIGH : Hid _ := hhigh
    clear hk0 hlow hhigh
    have hcell : ∀ i, i < n → ∀ j v, (rvL (O i) (E i) (F i) (G i))[j]? = some v → W.cell? ⟨R, i * 4 + j, none⟩ = some v := fun i hi j v hv => by
      have h := HR.out i hi j v hv
      rw [b1.cell (p := ⟨R, i * 4 + j, none⟩) (block_lt_of_cell h)]; exact h
    have HC : Hid _ := hcell
    clear hcell
    by_cases hlt : lo < hi
    · have hltI : (lo : Int) < (hi : Int) := by omega
      obtain ⟨mid, hmid⟩ : ∃ mid : Nat, mid = (lo + hi) / 2 := ⟨_, rfl⟩
      have hmidI : ((lo : Int) + (hi : Int)) / 2 = (mid : Int) := by omega
      have h1 : lo ≤ mid := by omega
      have h2 : mid < hi := by omega
      clear hmid
      have o1 := HO.out mid (by omega)
      have g1 : W.cell? ⟨R, mid * 4, none⟩ = some (.int .u32 (O mid : Nat)) := HC.out mid (by omega) 0 _ rfl
      by_cases y : (O mid : Int) < a
      · go_wp2_with fail
        go_roundg (hi - (mid + 1))
        case measure => have := hk.out; omega
        case rel => exact ⟨mid + 1, hi, by omega, by omega, hhn, by go_num, rfl, fun i hi' => by
          have := HS.out i mid (by omega) (by omega)
          omega, HHIGH.out, _, rfl⟩
      · have y' : ¬ (O mid : Int) < a := y
        go_wp2_with fail
        go_roundg (mid - lo)
        case measure => have := hk.out; omega
        case rel => exact ⟨lo, mid, by omega, by omega, by omega, rfl, rfl, HLOW.out, fun i h3 h4 => by
          have := HS.out mid i h3 h4
          omega, _, rfl⟩
    · have hltI : ¬ (lo : Int) < (hi : Int) := by omega
      have hlh' : hi = lo := by omega
      subst hlh'
      have hb2 := below_drewN b1 m
      have hld : ∀ o e f l, (loadVar 41 ⟨w.heap.size, 0, none⟩).run Try.prog ((W.drewN m).setRow w.heap.size (rvL o e f l).toArray) = .ok (.agg (rvL o e f l).toArray) ((W.drewN m).setRow w.heap.size (rvL o e f l).toArray) := fun o e f l =>
        run_loadVar_row _ w.heap.size 41 41 (rvL o e f l).toArray _ _ (setRow_heap (W.drewN m) w.heap.size _ (rvL o e f l).toArray 41 _ r1) Try.underlying41 rfl Try.size41
      by_cases y0 : hi < n
      · have y0I : (hi : Int) < (n : Int) := by omega
        have o1 := HO.out hi y0
        have g1 : W.cell? ⟨R, hi * 4, none⟩ = some (.int .u32 (O hi : Nat)) := HC.out hi y0 0 _ rfl
        by_cases y1 : (O hi : Int) = a
        · have y1' : ((O hi : Int) == a) = true := by rw [beq_iff_eq]; exact y1
          have Y1 : Hid _ := y1
          clear y1
          have hrg : (W.drewN m).rangeAt R (hi * 4) (rvL (O hi) (E hi) (F hi) (G hi)) := fun j v hv => HC.out hi y0 j v hv
          have r2 : (W.drewN m).heap[w.heap.size]? = some (.cells #[.int .u32 0, .int .u32 0, .int .u32 0, .int .u32 0] 41 (0, 0)) := r1
          go_wp2_with (first | refine wpList_load_mid rfl 41 _ rfl R (hi * 4) rfl (rvL (O hi) (E hi) (F hi) (G hi)) _ hrg Try.underlying41 rfl Try.size41 ?_ | refine wpList_store_row rfl 41 _ _ rfl w.heap.size (rvL (O hi) (E hi) (F hi) (G hi)).toArray rfl rfl 41 #[.int .u32 0, .int .u32 0, .int .u32 0, .int .u32 0] r2 Try.size41 rfl (all_oneCell_toArray (rvL_one _ _ _ _)) ?_)
          refine bodyPost_ret (results_cell_tmp1 rfl _ _ w.heap.size _ rfl (hld _ _ _ _)) rfl ?_
          exact ⟨below_setRow hb2 (Nat.le_refl _) _, .inl ⟨hi, y0, Y1.out, HLOW.out, rfl⟩⟩
        · have y1' : ((O hi : Int) == a) = false := by rw [beq_eq_false_iff_ne]; exact y1
          have r2 : (W.drewN m).heap[w.heap.size]? = some (.cells #[.int .u32 0, .int .u32 0, .int .u32 0, .int .u32 0] 41 (0, 0)) := r1
          have hb0 := run_b41_0
          go_wp2_with (first | refine wpList_store_row rfl 41 _ _ rfl w.heap.size (rvL 0 0 0 0).toArray rfl rfl 41 #[.int .u32 0, .int .u32 0, .int .u32 0, .int .u32 0] r2 Try.size41 rfl (all_oneCell_toArray (rvL_one _ _ _ _)) ?_)
          refine bodyPost_ret (results_cell_tmp1 rfl _ _ w.heap.size _ rfl (hld _ _ _ _)) rfl ?_
          refine ⟨below_setRow hb2 (Nat.le_refl _) _, .inr ⟨fun i hi' => ?_, rfl⟩⟩
          by_cases z : i < hi
          · have := HLOW.out i z; omega
          · have := HHIGH.out hi (Nat.le_refl _) y0
            have := HS.out hi i (by omega) hi'
            omega
      · have y0I : ¬ (hi : Int) < (n : Int) := by omega
        have r2 : (W.drewN m).heap[w.heap.size]? = some (.cells #[.int .u32 0, .int .u32 0, .int .u32 0, .int .u32 0] 41 (0, 0)) := r1
        have hb0 := run_b41_0
        go_wp2_with (first | refine wpList_store_row rfl 41 _ _ rfl w.heap.size (rvL 0 0 0 0).toArray rfl rfl 41 #[.int .u32 0, .int .u32 0, .int .u32 0, .int .u32 0] r2 Try.size41 rfl (all_oneCell_toArray (rvL_one _ _ _ _)) ?_)
        refine bodyPost_ret (results_cell_tmp1 rfl _ _ w.heap.size _ rfl (hld _ _ _ _)) rfl ?_
        refine ⟨below_setRow hb2 (Nat.le_refl _) _, .inr ⟨fun i hi' => ?_, rfl⟩⟩
        have := HLOW.out i (by omega); omega
end Go.Proofs.Qxb6602813a
