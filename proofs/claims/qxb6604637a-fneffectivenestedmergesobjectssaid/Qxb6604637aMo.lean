/- The small functions on maps. -/
import Derived.Test.Qxb6604637aMk
import Derived.Shelf.SlMaps.Clone
namespace Go.Proofs.Qxb6604637a
open Go.RowKit Go.Maps Go.MapKept Go.WideMaps Go.ChangeMaps
set_option linter.unusedVariables false

theorem nil44 (w : World) (p : Option Nat) : (binOp .eql 44 (.map p) (.map none)).run Try.prog w = .ok (.bool p.isNone) w := run_eql_map_nil_sl w 44 _ _ p Try.underlying44
theorem nil52 (w : World) (p : Option Nat) : (binOp .eql 52 (.map p) (.map none)).run Try.prog w = .ok (.bool p.isNone) w := run_eql_map_nil_sl w 52 _ _ p Try.underlying52
theorem nn44 (w : World) (p : Option Nat) : (binOp .neq 44 (.map p) (.map none)).run Try.prog w = .ok (.bool (!p.isNone)) w := by
  simp only [binOp]
  simp [show Op.equal 44 (.map p) (.map none) = Op.equalIn (9999 + 1) 44 (.map p) (.map none) from rfl, run_equalIn_map_nil_sl w 9999 44 _ _ p Try.underlying44]
theorem nn52 (w : World) (p : Option Nat) : (binOp .neq 52 (.map p) (.map none)).run Try.prog w = .ok (.bool (!p.isNone)) w := by
  simp only [binOp]
  simp [show Op.equal 52 (.map p) (.map none) = Op.equalIn (9999 + 1) 52 (.map p) (.map none) from rfl, run_equalIn_map_nil_sl w 9999 52 _ _ p Try.underlying52]

set_option maxRecDepth 100000 in
theorem clone_any (w : World) (b n : Nat) (f : Lit → Option Value) (h : MapIs w b n f) :
    Calls Try.prog 28 #[.map (some b)] w fun e w' => e = .returned (.map (some w.heap.size)) ∧ MapIs w' w.heap.size n f ∧ Below w.heap.size w w' ∧ w'.heap.size = w.heap.size + 1 := by
  obtain ⟨D, ⟨es, clock, hb, F, hs, hD⟩, hv⟩ := h
  have hq := fun w => nil44 w (some b)
  have H : Hid (∀ w' : World, w'.heap[w.heap.size]? = some (.map es clock) → MapIs w' w.heap.size n f) := fun w' hw' => ⟨D, ⟨es, clock, hw', F, hs, hD⟩, hv⟩
  clear F hs hD hv
  go_enter Try.func28, Try.ntmps28
  go_wp2
  rw [run_callFunc_extern Try.func29 (by kernel_rfl) (by kernel_rfl) (by kernel_rfl) (e := Extern.MapsClone.clone) (by kernel_rfl), run_maps_clone_sl w 44 hb]
  simp only [Result.andThen]
  rw [Oper.upon_value]
  go_wp2
  rw [run_typeAssert_map_sl _ 44 20 _ _ _ Try.underlying44]
  simp only [Result.andThen]
  rw [Oper.upon_value]
  go_wp2
  go_ret
  exact ⟨rfl, H.out _ (heap_alloc _ _).1, (Below.refl _ w).alloc (Nat.le_refl _) _, by simp⟩

set_option maxRecDepth 100000 in
theorem own_any (w : World) (b n : Nat) (f : Lit → Option Value) (h : MapIs w b n f) :
    Calls Try.prog 25 #[.map (some b), .map none] w fun e w' => ∃ b1 b2, e = .returned (.tuple #[.map (some b1), .map (some b2)]) ∧ b1 ≠ b2 ∧ w.heap.size ≤ b1 ∧ w.heap.size ≤ b2 ∧ MapIs w' b1 n f ∧ MapIs w' b2 0 (fun _ => none) ∧ Below w.heap.size w w' := by
  have hq := nil44
  have hq1 := nil52
  have hq2 := nn44
  have hq3 := nn52
  have hmm := @run_makeMap Try.prog
  have H : Hid _ := h
  clear h
  go_enter Try.func25, Try.ntmps25
  go_wp2_with fail
  refine (clone_any w b n f H.out).mono ?_
  rintro e w1 ⟨rfl, hm1, hb1, hs1⟩
  have HM : Hid (MapIs w1 w.heap.size n f) := hm1
  have HB1 : Hid (Below w.heap.size w w1) := hb1
  have HS : Hid (w1.heap.size = w.heap.size + 1) := hs1
  clear hm1 hb1 hs1
  go_wp2_with fail
  go_ret2
  refine ⟨_, _, rfl, ?_, Nat.le_refl _, ?_, HM.out.alloc _, MapIs.made _, HB1.out.alloc ?_ _⟩
  · have := HS.out; omega
  · have := HS.out; omega
  · have := HS.out; omega

/-- 'x.(map[string]any)' with ok -/
theorem assert_map (w : World) (v : Value) : (Instr.typeAssert (.iface 44 v) 20 44 true).run Try.prog w = .ok (.tuple #[v, .bool true]) w := by
  simp [Instr.typeAssert, run_underlying Try.underlying44, go_sem, Result.andThen]
theorem assert_map_str (w : World) (v : Value) : (Instr.typeAssert (.iface 9 v) 20 44 true).run Try.prog w = .ok (.tuple #[.map none, .bool false]) w := by
  kernel_rfl
theorem assert_map_nil (w : World) : (Instr.typeAssert .nilIface 20 44 true).run Try.prog w = .ok (.tuple #[.map none, .bool false]) w := by
  kernel_rfl
theorem assert_str (w : World) (v : Value) : (Instr.typeAssert (.iface 9 v) 20 9 true).run Try.prog w = .ok (.tuple #[v, .bool true]) w := by
  simp [Instr.typeAssert, run_underlying Try.underlying9, go_sem, Result.andThen]

/-- an element that is a map -/
abbrev im (b : Nat) : Value := .iface 44 (.map (some b))
/-- an element that is a string -/
abbrev is (s : ByteArray) : Value := .iface 9 (.string s)

set_option maxRecDepth 100000 in
theorem merges_both (w : World) (b1 b2 : Nat) : Calls Try.prog 26 #[im b1, im b2] w fun e w' => e = .returned (.tuple #[.map (some b1), .map (some b2), .bool true]) ∧ w' = w := by
  have h1 := assert_map
  go_enter Try.func26, Try.ntmps26
  go_wp2_with fail
  go_ret3
  exact ⟨rfl, rfl⟩
set_option maxRecDepth 100000 in
theorem merges_low (w : World) (v : Value) (hv : v = .nilIface ∨ ∃ s, v = is s) (u : Value) (hu : (∃ s, u = is s) ∨ ∃ b, u = im b) : Calls Try.prog 26 #[v, u] w fun e w' => e = .returned (.tuple #[.map none, .map none, .bool false]) ∧ w' = w := by
  have h1 := assert_map
  have h2 := assert_map_str
  have h3 := assert_map_nil
  rcases hv with rfl | ⟨s, rfl⟩ <;> rcases hu with ⟨t, rfl⟩ | ⟨b, rfl⟩
  all_goals
    go_enter Try.func26, Try.ntmps26
    go_wp2_with fail
    go_ret3
    exact ⟨rfl, rfl⟩

/-- what put leaves of the record of what is owned: whatever stands at the key put -/
theorem put_any (w : World) (o n : Nat) (f : Lit → Option Value) (h : MapIs w o n f) (hn : n < maxLen) (s : ByteArray) (hs : s.size ≤ maxLen) (x : Option Nat) :
    Calls Try.prog 27 #[.map (some o), .string s, .map x] w fun e w' => e = .returned (.tuple #[]) ∧ MapIs w' o (n + 1) (upd f (sk s) (x.map (fun b => .map (some b)))) ∧ w.grownBy w' (some o) ∧ w'.heap.size = w.heap.size := by
  have hq1 := nil52
  have H : Hid (MapIs w o n f) := h
  clear h
  cases x with
  | none =>
    go_enter Try.func27, Try.ntmps27
    go_wp2_with (first | (at_delete; refine wpList_drop _ rfl _ _ 52 52 rfl Try.underlying52 o n f rfl H.out s hs rfl ?_; intro w1 hm1 hg1 hs1))
    refine bodyPost_ret (results_none rfl _ _ _) rfl ?_
    exact ⟨rfl, hm1.mono (Nat.le_succ _), hg1, hs1⟩
  | some b =>
    go_enter Try.func27, Try.ntmps27
    go_wp2_with (first | (at_mapUpdate; refine wpList_store _ rfl _ _ _ 52 52 rfl Try.underlying52 o n f rfl H.out hn s hs _ rfl rfl ?_; intro w1 hm1 hg1 hs1))
    go_end0
    exact ⟨rfl, hm1, hg1, hs1⟩
end Go.Proofs.Qxb6604637a
