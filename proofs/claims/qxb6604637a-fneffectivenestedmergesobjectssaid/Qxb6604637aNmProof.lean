/- THE PROOF OF 'Rows.FnEffectiveNestedMergesObjectsSaid' (after the shape of the given shells of another seat). -/
import Derived.Test.Qxb6604637aRows
import Derived.WalkKit
import Derived.ProofKit
import Derived.OpenShut
import Derived.ShutString
import Derived.ChangeOld
import Derived.Below
import Derived.Deep.Slices
import Derived.Test.Qxb6604637aLwA
import Derived.Test.Qxb6604637aKp
namespace Go.Proofs.Qxb6604637a.fnNested
open Go.ChangeShapes Go.WideShapes Go.ChangeAt Go.RowKit Go.Deep
open Go.ChangeMaps (open_string shut_string)
set_option linter.unusedVariables false

theorem own : ownKnob Try.prog.godebug = none := by kernel_rfl
theorem laidOut : laidOutB Try.prog = true := by kernel_rfl

/-- rows of strings that came in -/
theorem in_strs {H : Type} {enc : TypeId × Value → H} {w : World} {base : Nat} {held : Bool} {fuel : Nat} {a : Option Addr} {len cap : Nat} {x : DataW H × List MemPlace}
    (h : DataW.trod enc Try.prog w base (fun _ => true) held fuel 22 [.slice a len cap] = some x) : ∃ (A : Nat → Option Addr) (L C : Nat → Nat) (V : Nat → Nat → ByteArray), InRows w a len A L C (fun i j => .string (V i j)) ∧ ∀ i j, (V i j).size ≤ maxLen := by
  rcases open_slice1 Try.underlying22 (by kernel_rfl) h with ⟨hcs, _⟩ | ⟨b, l, c, m, n, W, D, Pl, hcs, hb, hl, hm, hmm, _, hx⟩
  · simp only [List.cons.injEq, Value.slice.injEq, and_true] at hcs
    obtain ⟨rfl, rfl, rfl⟩ := hcs
    exact ⟨fun _ => none, fun _ => 0, fun _ => 0, fun _ _ => ByteArray.empty, ⟨fun _ => rfl, fun _ h => (by cases h), fun i hi => absurd hi (by omega), fun i hi => absurd hi (by omega)⟩, fun _ _ => by simp [maxLen]⟩
  · simp only [List.cons.injEq, Value.slice.injEq, and_true] at hcs
    obtain ⟨rfl, rfl, rfl⟩ := hcs
    simp only [if_true] at hmm
    subst hmm
    have each : ∀ r, r < m → ∃ y : Option Addr × Nat × Nat × (Nat → ByteArray), W r = .slice y.1 y.2.1 y.2.2.1 ∧ (y.1 = none → y.2.1 = 0) ∧ (∀ a', y.1 = some a' → ∀ j, j < y.2.1 → w.cell? (a'.add j) = some (.string (y.2.2.2 j))) ∧ ∀ j, (y.2.2.2 j).size ≤ maxLen := by
      intro r hr
      rcases open_slice1 Try.underlying25 (by kernel_rfl) (hx r hr).2 with ⟨hcs, _⟩ | ⟨b', l', c', m', n', W', D', Pl', hcs, hb', hl', hm', hmm', _, hx'⟩
      · exact ⟨(none, 0, 0, fun _ => ByteArray.empty), by simpa using hcs, fun _ => rfl, fun _ h => (by cases h), fun _ => by simp [maxLen]⟩
      · simp only [if_true] at hmm'
        subst hmm'
        have e2 : ∀ j, j < m' → ∃ s : ByteArray, W' j = .string s ∧ s.size ≤ maxLen := fun j hj => by
          obtain ⟨s, h1, _, h3⟩ := DataW.trod_string Try.underlying9 (hx' j hj).2
          exact ⟨s, by simpa using h1, h3⟩
        obtain ⟨Z, hZ⟩ := choose_lt e2
        refine ⟨(some b', l', m', fun j => if j < m' then Z j else ByteArray.empty), by simpa using hcs, (fun h => by cases h), fun a' ha j hj => ?_, fun j => ?_⟩
        · cases ha
          have hj' : j < m' := by simp only at hj; omega
          rw [(hx' j hj').1, (hZ j hj').1]
          simp [hj']
        · by_cases hj : j < m'
          · simp only [hj, if_true]; exact (hZ j hj).2
          · simp only [hj, if_false]; simp [maxLen]
    obtain ⟨y, hy⟩ := choose_lt each
    refine ⟨fun r => (y r).1, fun r => (y r).2.1, fun r => (y r).2.2.1, fun r j => if r < m then (y r).2.2.2 j else ByteArray.empty, ⟨fun h => (by cases h), fun z hz i hi => ?_, fun i hi h => (hy i (by omega)).2.1 h, fun i hi z hz j hj => ?_⟩, fun i j => ?_⟩
    · cases hz
      rw [(hx i (by omega)).1, (hy i (by omega)).1]
    · rw [(hy i (by omega)).2.2.1 z hz j hj]
      simp [show i < m by omega]
    · by_cases hi : i < m
      · simp only [hi, if_true]; exact (hy i hi).2.2.2 j
      · simp only [hi, if_false]; simp [maxLen]

/-- rows of bools that came in -/
theorem in_bools {H : Type} {enc : TypeId × Value → H} {w : World} {base : Nat} {held : Bool} {fuel : Nat} {a : Option Addr} {len cap : Nat} {x : DataW H × List MemPlace}
    (h : DataW.trod enc Try.prog w base (fun _ => true) held fuel 33 [.slice a len cap] = some x) : ∃ (A : Nat → Option Addr) (L C : Nat → Nat) (V : Nat → Nat → Bool), InRows w a len A L C (fun i j => .bool (V i j)) := by
  rcases open_slice1 Try.underlying33 (by kernel_rfl) h with ⟨hcs, _⟩ | ⟨b, l, c, m, n, W, D, Pl, hcs, hb, hl, hm, hmm, _, hx⟩
  · simp only [List.cons.injEq, Value.slice.injEq, and_true] at hcs
    obtain ⟨rfl, rfl, rfl⟩ := hcs
    exact ⟨fun _ => none, fun _ => 0, fun _ => 0, fun _ _ => false, ⟨fun _ => rfl, fun _ h => (by cases h), fun i hi => absurd hi (by omega), fun i hi => absurd hi (by omega)⟩⟩
  · simp only [List.cons.injEq, Value.slice.injEq, and_true] at hcs
    obtain ⟨rfl, rfl, rfl⟩ := hcs
    simp only [if_true] at hmm
    subst hmm
    have each : ∀ r, r < m → ∃ y : Option Addr × Nat × Nat × (Nat → Bool), W r = .slice y.1 y.2.1 y.2.2.1 ∧ (y.1 = none → y.2.1 = 0) ∧ (∀ a', y.1 = some a' → ∀ j, j < y.2.1 → w.cell? (a'.add j) = some (.bool (y.2.2.2 j))) := by
      intro r hr
      rcases open_slice1 Try.underlying30 (by kernel_rfl) (hx r hr).2 with ⟨hcs, _⟩ | ⟨b', l', c', m', n', W', D', Pl', hcs, hb', hl', hm', hmm', _, hx'⟩
      · exact ⟨(none, 0, 0, fun _ => false), by simpa using hcs, fun _ => rfl, fun _ h => by cases h⟩
      · simp only [if_true] at hmm'
        subst hmm'
        have e2 : ∀ j, j < m' → ∃ s : Bool, W' j = .bool s := fun j hj => by
          obtain ⟨s, h1, _⟩ := DataW.trod_bool Try.underlying4 (hx' j hj).2
          exact ⟨s, by simpa using h1⟩
        obtain ⟨Z, hZ⟩ := choose_lt e2
        refine ⟨(some b', l', m', Z), by simpa using hcs, (fun h => by cases h), fun a' ha j hj => ?_⟩
        cases ha
        have hj' : j < m' := by simp only at hj; omega
        rw [(hx' j hj').1, hZ j hj']
    obtain ⟨y, hy⟩ := choose_lt each
    refine ⟨fun r => (y r).1, fun r => (y r).2.1, fun r => (y r).2.2.1, fun r j => (y r).2.2.2 j, ⟨fun h => (by cases h), fun z hz i hi => ?_, fun i hi h => (hy i (by omega)).2.1 h, fun i hi z hz j hj => ?_⟩⟩
    · cases hz
      rw [(hx i (by omega)).1, (hy i (by omega)).1]
    · exact (hy i (by omega)).2.2 z hz j hj

set_option maxRecDepth 100000 in
theorem lifted (os : Os) (started : os.Started) (H : Type) (enc : TypeId × Value → H) :
    ReturnsInHanded {} Try.checked os 4 .any (Rows.fnEffectiveNestedMergesObjectsSpec.pre6 enc Try.prog Try.f4 Rows.fnEffectiveNestedMergesObjectsRow.domain false) (Rows.fnEffectiveNestedMergesObjectsSpec.post enc Try.prog Try.f4 false true false false) := by
  refine returnsInHanded_of_change (C := Try.checked) own started (by kernel_rfl) Try.func4
    (ChangeSpec.witness6 (enc := enc) (C := Try.checked) false ⟨#[], #[.slice none 0 0, .slice none 0 0, .slice none 0 0, .slice none 0 0], []⟩ 8 (by kernel_rfl) (by kernel_rfl) (by kernel_rfl) (by kernel_rfl)) ?_
  intro W base args ds gs before hval0 hW hcnd _
  have hval : ∀ (j : Nat) t v, Try.f4.params[j]? = some t → args[j]? = some v → Value.okWide Try.prog W .any base t v := hval0
  have hW' := hW
  obtain ⟨p, q, hA0, hV, rfl, hfz, hnd⟩ := hW
  have hA : DataW.TrodAll enc Try.prog W 0 (fun _ => true) true Try.f4.params.toList args.toList ds p := hA0
  rw [Try.params4] at hA hval
  obtain ⟨v0, vs0, d0, ds0, p0, q0, hargs, rfl, rfl, h0, r0⟩ := trodAll_cons hA
  obtain ⟨v1, vs1, d1, ds1, p1, q1, rfl, rfl, rfl, h1, r1⟩ := trodAll_cons r0
  obtain ⟨v2, vs2, d2, ds2, p2, q2, rfl, rfl, rfl, h2, r2⟩ := trodAll_cons r1
  obtain ⟨v3, vs3, d3, ds3, p3, q3, rfl, rfl, rfl, h3, r3⟩ := trodAll_cons r2
  obtain ⟨rfl, rfl, rfl⟩ := trodAll_nil r3
  obtain rfl : args = #[v0, v1, v2, v3] := by cases args; simp_all
  obtain ⟨rfl, rfl⟩ := trodVars_none hV
  obtain ⟨a0, len0, cap0, rfl⟩ := okWide_slice Try.underlying22 (hval 0 22 v0 rfl rfl)
  obtain ⟨a1, len1, cap1, rfl⟩ := okWide_slice Try.underlying22 (hval 1 22 v1 rfl rfl)
  obtain ⟨a2, len2, cap2, rfl⟩ := okWide_slice Try.underlying33 (hval 2 33 v2 rfl rfl)
  obtain ⟨a3, len3, cap3, rfl⟩ := okWide_slice Try.underlying22 (hval 3 22 v3 rfl rfl)
  have k0 := h0
  have k1 := h1
  have k2 := h2
  have k3 := h3
  have lt0 : ∀ x ∈ p0, x.block < W.heap.size := by obtain ⟨m, hm⟩ := k0; exact DataW.trod_lt m _ _ _ hm
  have lt1 : ∀ x ∈ p1, x.block < W.heap.size := by obtain ⟨m, hm⟩ := k1; exact DataW.trod_lt m _ _ _ hm
  have lt2 : ∀ x ∈ p2, x.block < W.heap.size := by obtain ⟨m, hm⟩ := k2; exact DataW.trod_lt m _ _ _ hm
  have lt3 : ∀ x ∈ p3, x.block < W.heap.size := by obtain ⟨m, hm⟩ := k3; exact DataW.trod_lt m _ _ _ hm
  obtain ⟨f0, hf0⟩ := h0
  obtain ⟨f1, hf1⟩ := h1
  obtain ⟨f2, hf2⟩ := h2
  obtain ⟨f3, hf3⟩ := h3
  simp only [Value.cells] at hf0 hf1 hf2 hf3
  obtain ⟨AO, LO, CO, O, iO, zO⟩ := in_strs hf0
  obtain ⟨AI, LI, CI, I, iI, zI⟩ := in_strs hf1
  obtain ⟨AB, LB, CB, B, iB⟩ := in_bools hf2
  obtain ⟨AV, LV, CV, V, iV, zV⟩ := in_strs hf3
  clear hA0 hval0
  refine (law4_any W a0 a1 a2 a3 len0 len1 len2 len3 cap0 cap1 cap2 cap3 AO AI AB AV LO LI LB LV CO CI CB CV O I V B iO iI iB iV zO zI (fun L N => owed O I V B L N)).mono fun e W' ⟨he, bel⟩ => ?_
  subst he
  exact ⟨_, rfl, _, _, _, [], _, [], hW', trodAll_mk1 (shut_bool Try.underlying4 _), (trodAll_cons_mk (Below.trod laidOut (by kernel_rfl) (of_decide_eq_true (by kernel_rfl)) k0 bel lt0) (trodAll_cons_mk (Below.trod laidOut (by kernel_rfl) (of_decide_eq_true (by kernel_rfl)) k1 bel lt1) (trodAll_cons_mk (Below.trod laidOut (by kernel_rfl) (of_decide_eq_true (by kernel_rfl)) k2 bel lt2) (trodAll_cons_mk (Below.trod laidOut (by kernel_rfl) (of_decide_eq_true (by kernel_rfl)) k3 bel lt3) trodAll_mk0)))), rfl, bel.frame _, fun h => by cases h⟩

theorem over : Rows.fnEffectiveNestedMergesObjectsRow.holds Try.pinned (OpenSpec.ofChange Rows.fnEffectiveNestedMergesObjectsSpec) :=
  OpenClaim.holds_of_wide 4 Try.f4 rfl rfl rfl rfl rfl rfl rfl ⟨rfl, rfl, rfl, rfl, rfl⟩ rfl rfl rfl rfl rfl (by kernel_rfl) Try.func4 (by kernel_rfl)
    (of_decide_eq_true (by kernel_rfl)) (by unfold Func.isWrapper; first | (rw [if_pos (by decide +kernel)]; kernel_rfl) | (rw [if_neg (by decide +kernel)]; exact ⟨rfl, rfl⟩))
    (fun os started H enc _ => lifted os started H enc)

/-- THE STATEMENT -/
theorem proved : Rows.FnEffectiveNestedMergesObjectsSaid := over
end Go.Proofs.Qxb6604637a.fnNested
