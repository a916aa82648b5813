/- THE PROOF OF 'Rows.FnNewShapeMatchesCanonicalTreeModelSaid'. -/
import Derived.Test.Qxb6602643aTm
import Derived.Test.Qxb6602643aOpen
namespace Go.Proofs.Qxb6602643a.fnTreeModel
open Go.ChangeShapes Go.WideShapes Go.ChangeAt Go.RowKit
set_option linter.unusedVariables false

theorem own : ownKnob Try.prog.godebug = none := by kernel_rfl
theorem laidOut : laidOutB Try.prog = true := by kernel_rfl
theorem cells5 : Try.prog.cellsOf 5 = 1 := by kernel_rfl
theorem cells23 : Try.prog.cellsOf 23 = 256 := by kernel_rfl
theorem cells30 : Try.prog.cellsOf 30 = 1 := by kernel_rfl
theorem cells38 : Try.prog.cellsOf 38 = 256 := by kernel_rfl

set_option maxRecDepth 100000 in
theorem walk_nil (v : Option Addr) (w : World) : Calls Try.prog 6 #[.pointer none, .pointer v] w fun e w' => e = .returned (.bool true) ∧ Below w.heap.size w w' := by
  go_enter Try.func6, Try.ntmps6
  go_wp2
  go_ret
  exact ⟨rfl, Below.refl _ _⟩
set_option maxRecDepth 100000 in
theorem walk_nil2 (b o : Nat) (w : World) : Calls Try.prog 6 #[.pointer (some ⟨b, o, none⟩), .pointer none] w fun e w' => e = .returned (.bool true) ∧ Below w.heap.size w w' := by
  go_enter Try.func6, Try.ntmps6
  go_wp2
  go_ret
  exact ⟨rfl, Below.refl _ _⟩

set_option maxRecDepth 100000 in
theorem lifted (os : Os) (started : os.Started) (H : Type) (enc : TypeId × Value → H) :
    ReturnsInHanded {} Try.checked os 6 .any (Rows.fnNewShapeMatchesCanonicalTreeModelSpec.pre6 enc Try.prog Try.f6 Rows.fnNewShapeMatchesCanonicalTreeModelRow.domain false) (Rows.fnNewShapeMatchesCanonicalTreeModelSpec.post enc Try.prog Try.f6 false true false false) := by
  refine returnsInHanded_of_change (C := Try.checked) own started (by kernel_rfl) Try.func6
    (ChangeSpec.witness6 (enc := enc) (C := Try.checked) false ⟨#[], #[.pointer none, .pointer none], []⟩ 8 (by kernel_rfl) (by kernel_rfl) (by kernel_rfl) (by kernel_rfl)) ?_
  intro W base args ds gs before hval0 hW hcnd _
  have hval : ∀ (j : Nat) t v, Try.f6.params[j]? = some t → args[j]? = some v → Value.okWide Try.prog W .any base t v := hval0
  have hW' := hW
  obtain ⟨p, q, hA0, hV, rfl, hfz, hnd⟩ := hW
  have hA : DataW.TrodAll enc Try.prog W 0 (fun _ => true) true Try.f6.params.toList args.toList ds p := hA0
  rw [Try.params6] at hA hval
  obtain ⟨v0, vs0, d0, ds0, p0, q0, hargs, rfl, rfl, h0, r0⟩ := trodAll_cons hA
  obtain ⟨v1, vs1, d1, ds1, p1, q1, rfl, rfl, rfl, h1, r1⟩ := trodAll_cons r0
  obtain ⟨rfl, rfl, rfl⟩ := trodAll_nil r1
  obtain rfl : args = #[v0, v1] := by cases args; simp_all
  obtain ⟨rfl, rfl⟩ := trodVars_none hV
  have k0 := h0
  have lt0 : ∀ x ∈ p0, x.block < W.heap.size := by obtain ⟨m, hm⟩ := k0; exact DataW.trod_lt m _ _ _ hm
  have k1 := h1
  have lt1 : ∀ x ∈ p1, x.block < W.heap.size := by obtain ⟨m, hm⟩ := k1; exact DataW.trod_lt m _ _ _ hm
  have hwalk : Calls Try.prog 6 #[v0, v1] W fun e w' => e = .returned (.bool true) ∧ Below W.heap.size W w' := by
    rcases open_ptr_arr Try.underlying37 Try.underlying38 Try.underlying30 cells30 cells38 (by omega) (hval 0 37 v0 rfl rfl) h0 with rfl | ⟨b, off, Z, rfl, hZ⟩
    · rcases open_ptr_arr Try.underlying22 Try.underlying23 Try.underlying5 cells5 cells23 (by omega) (hval 1 22 v1 rfl rfl) h1 with rfl | ⟨b, off, Z, rfl, hZ⟩
      · exact walk_nil none W
      · exact walk_nil (some ⟨b, off, none⟩) W
    · rcases open_ptr_arr Try.underlying22 Try.underlying23 Try.underlying5 cells5 cells23 (by omega) (hval 1 22 v1 rfl rfl) h1 with rfl | ⟨b', off', Z', rfl, hZ'⟩
      · exact walk_nil2 b off W
      · exact law6_any W b off b' off' (fun i => (Z i).toNat) (fun i => (Z' i).toNat) (fun i hi => by rw [(hZ i hi).1, (u64_nat (hZ i hi).2).1]) (fun i hi => (u64_nat (hZ i hi).2).2)
          (fun i hi => by rw [(hZ' i hi).1, (u8_nat (hZ' i hi).2).1]) (fun i hi => (u8_nat (hZ' i hi).2).2)
  clear hA0 hval0
  refine hwalk.mono fun e W' ⟨he, bel⟩ => ?_
  subst he
  exact ⟨_, rfl, _, _, _, [], _, [], hW', trodAll_mk1 (shut_bool Try.underlying4 _), (trodAll_cons_mk (Below.trod laidOut (by kernel_rfl) (of_decide_eq_true (by kernel_rfl)) k0 bel lt0) (trodAll_cons_mk (Below.trod laidOut (by kernel_rfl) (of_decide_eq_true (by kernel_rfl)) k1 bel lt1) trodAll_mk0)), rfl, bel.frame _, fun h => by cases h⟩

theorem over : Rows.fnNewShapeMatchesCanonicalTreeModelRow.holds Try.pinned (OpenSpec.ofChange Rows.fnNewShapeMatchesCanonicalTreeModelSpec) :=
  OpenClaim.holds_of_wide 6 Try.f6 rfl rfl rfl rfl rfl rfl rfl ⟨rfl, rfl, rfl, rfl, rfl⟩ rfl rfl rfl rfl rfl (by kernel_rfl) Try.func6 (by kernel_rfl)
    (of_decide_eq_true (by kernel_rfl)) (by unfold Func.isWrapper; first | (rw [if_pos (by decide +kernel)]; kernel_rfl) | (rw [if_neg (by decide +kernel)]; exact ⟨rfl, rfl⟩))
    (fun os started H enc _ => lifted os started H enc)

/-- THE STATEMENT -/
theorem proved : Rows.FnNewShapeMatchesCanonicalTreeModelSaid := over
end Go.Proofs.Qxb6602643a.fnTreeModel
