/- zzLess, zzIota, zzMergeSort. -/
import Derived.Test.Qxb6604637aSp
import Derived.Test.Qxb6604637aKit
import Derived.Test.Qxb6604637aEnB
import Derived.Lib.SliceRun
import Derived.Laws.CopyOwn
namespace Go.Proofs.Qxb6604637a
open Go.RowKit
set_option linter.unusedVariables false

/-- the second list of strings: none, or one -/
def StrsO (w : World) (b : Option Addr) (n : Nat) (Bo : Option (Nat → ByteArray)) : Prop :=
  match Bo with
  | none => b = none
  | some B => ∃ g : Nat, b = some ⟨g, 0, none⟩ ∧ ∀ k, k < n → w.cell? ⟨g, k, none⟩ = some (.string (B k))

theorem drew2 (w : World) (a b : Nat) : ∃ m, (w.drewN a).drewN b = w.drewN m := ⟨a + b, World.drewN_drewN _ _ _⟩
theorem drew3 (w : World) (a b c : Nat) : ∃ m, ((w.drewN a).drewN b).drewN c = w.drewN m := ⟨a + (b + c), by rw [World.drewN_drewN, World.drewN_drewN]⟩

set_option maxHeartbeats 2000000 in
set_option maxRecDepth 100000 in
theorem zzLess_any (w : World) (g n ca nb cb : Nat) (b : Option Addr) (A : Nat → ByteArray) (Bo : Option (Nat → ByteArray)) (hA : ∀ k, k < n → w.cell? ⟨g, k, none⟩ = some (.string (A k))) (hB : StrsO w b n Bo) (hnb : Bo ≠ none → nb = n) (i j : Nat) (hi : i < n) (hj : j < n) (hn : n ≤ 1048576) (m0 : Nat) :
    Calls Try.prog 19 #[.int .i64 (i : Nat), .int .i64 (j : Nat), .slice (some ⟨g, 0, none⟩) n ca, .slice b nb cb] (w.drewN m0) fun e w' => e = .returned (.bool (lessB A Bo i j)) ∧ ∃ m, w' = w.drewN m := by
  have a1 := hA i hi
  have a2 := hA j hj
  have hiI : (i : Int) < (n : Int) := by omega
  have hjI : (j : Int) < (n : Int) := by omega
  have hnil := fun (w : World) (a : Option Addr) (n c : Nat) => Lib.run_eql_slice_nil (P := Try.prog) w 25 9 a n c 0 0 Try.underlying25
  clear hA
  rcases Classical.em (A i = A j) with e | e
  · have e1 : ((A i).toList == (A j).toList) = true := beq_str.2 e
    have el := lessB_eq (Bo := Bo) e
    obtain ⟨r, hr⟩ : ∃ r, r = lessB A Bo i j := ⟨_, rfl⟩
    rw [← hr] at el ⊢
    clear hr e
    cases Bo with
    | none =>
      obtain rfl : b = none := hB
      simp only at el
      subst el
      clear hnb
      go_enter Try.func19, Try.ntmps19
      go_wp2_with fail
      go_quiet (fail)
      go_wp2_with fail
      go_ret
      exact ⟨rfl, _, rfl⟩
    | some B =>
      obtain ⟨gb, rfl, hb⟩ := hB
      obtain rfl := hnb (by simp)
      have b1 := hb i hi
      have b2 := hb j hj
      have EL : Hid (r = blt (B i) (B j)) := el
      clear el hb hnb
      go_enter Try.func19, Try.ntmps19
      go_wp2_with fail
      go_quiet (fail)
      go_wp2_with fail
      go_quiet (fail)
      go_wp2_with fail
      go_ret
      exact ⟨by rw [EL.out]; rfl, drew2 _ _ _⟩
  · have e1 : ((A i).toList == (A j).toList) = false := beq_str_false.2 e
    have el := lessB_ne (Bo := Bo) e
    obtain ⟨r, hr⟩ : ∃ r, r = lessB A Bo i j := ⟨_, rfl⟩
    rw [← hr] at el ⊢
    have EL : Hid (r = blt (A i) (A j)) := el
    clear hr e el hB hnb
    go_enter Try.func19, Try.ntmps19
    go_wp2_with fail
    go_quiet (fail)
    go_wp2_with fail
    go_quiet (fail)
    go_wp2_with fail
    go_ret
    exact ⟨by rw [EL.out]; rfl, drew3 _ _ _ _⟩

set_option maxRecDepth 100000 in
theorem zzIota_any (w : World) (n : Nat) (hn : n ≤ 1048576) :
    Calls Try.prog 10 #[.int .i64 (n : Nat)] w fun e w' => e = .returned (.slice (some ⟨w.heap.size, 0, none⟩) n n) ∧ (∀ k, k < n → w'.cell? ⟨w.heap.size, k, none⟩ = some (.int .i64 (k : Nat))) ∧ Below w.heap.size w w' := by
  have hmk := fun w => run_make_row' (P := Try.prog) 27 3 (.int .i64 0) 8 Try.underlying27 Try.info3c rfl .i64 .i64 n (by omega) (by omega) w
  go_enter Try.func10, Try.ntmps10
  go_upto_region 2 with fail
  have R1 : Hid (rowPre (w.alloc (Obj.cells (madeCells #[.int .i64 0] n) 3)) w.heap.size 3 n (fun i => if i < 0 then (fun k : Nat => .int .i64 (k : Nat)) i else .int .i64 0)) := (rowPre_made _ _ _ _).congr (fun i _ => by simp)
  have B1 : Hid (Below w.heap.size w (w.alloc (Obj.cells (madeCells #[.int .i64 0] n) 3))) := (Below.refl _ _).alloc (Nat.le_refl _) _
  generalize w.alloc (Obj.cells (madeCells #[.int .i64 0] n) 3) = W at *
  go_wp2_with fail
  go_loopg [4] n (fun k s4 wr => ∃ j : Nat, k = n - j ∧ j ≤ n ∧ s4 = .int .i64 (j : Nat) ∧ rowPre wr w.heap.size 3 n (fun i => if i < j then (fun k : Nat => .int .i64 (k : Nat)) i else .int .i64 0) ∧ Below w.heap.size w wr)
  case atStart => exact ⟨0, rfl, by omega, rfl, R1.out, B1.out⟩
  case round =>
    obtain ⟨j, hk, hj, rfl, hr, hb⟩ := hrel
    have HK : Hid _ := hk
    have HR : Hid (rowPre wr w.heap.size 3 n (fun i => if i < j then (fun k : Nat => .int .i64 (k : Nat)) i else .int .i64 0)) := hr
    have HB : Hid (Below w.heap.size w wr) := hb
    clear hk hr hb
    by_cases h : j < n
    · have hI : (j : Int) < (n : Int) := by omega
      have c1 := HR.out.cell h
      have z1 := HR.out.frozen j
      simp only [Nat.lt_irrefl, if_false] at c1
      go_wp2_with fail
      go_roundg (n - (j + 1))
      case measure => have := HK.out; omega
      case rel => exact ⟨j + 1, by omega, by omega, by go_num, HR.out.put h rfl, Below.setAt HB.out (Nat.le_refl _) j _⟩
    · have hI : ¬ (j : Int) < (n : Int) := by omega
      obtain rfl : j = n := by omega
      go_wp2_with fail
      go_ret
      refine ⟨rfl, fun k hk => ?_, HB.out⟩
      rw [HR.out.cell hk, if_pos hk]
end Go.Proofs.Qxb6604637a
