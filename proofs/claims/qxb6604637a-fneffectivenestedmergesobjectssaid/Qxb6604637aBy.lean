/- zzBytesOf, zzBoolBytesOf. -/
import Derived.Test.Qxb6604637aEf
namespace Go.Proofs.Qxb6604637a
open Go.RowKit
set_option linter.unusedVariables false

/-- rows that came in -/
structure InRows (w : World) (a : Option Addr) (N : Nat) (A : Nat → Option Addr) (L C : Nat → Nat) (V : Nat → Nat → Value) : Prop where
  nil : a = none → N = 0
  cell : ∀ x, a = some x → ∀ i, i < N → w.cell? (x.add i) = some (.slice (A i) (L i) (C i))
  zero : ∀ i, i < N → A i = none → L i = 0
  elem : ∀ i, i < N → ∀ y, A i = some y → ∀ j, j < L i → w.cell? (y.add j) = some (V i j)

set_option maxHeartbeats 4000000 in
set_option maxRecDepth 100000 in
theorem bytesOf_any (w : World) (a : Option Addr) (N c : Nat) (A : Nat → Option Addr) (L C : Nat → Nat) (V : Nat → Nat → ByteArray) (h : InRows w a N A L C (fun i j => .string (V i j))) (hz : ∀ i, i < N → ∀ j, j < L i → (V i j).size ≤ 1048576) :
    Calls Try.prog 7 #[.slice a N c] w fun e w' => w' = w ∧ ∃ r : Nat, e = .returned (.int .i64 (r : Nat)) ∧ r ≤ 1125899906842624 ∧ (r ≤ 1048576 → 8 * N + 8 * psum L N ≤ r) := by
  have H : Hid (InRows w a N A L C (fun i j => .string (V i j))) := h
  have HZ : Hid (∀ i, i < N → ∀ j, j < L i → (V i j).size ≤ 1048576) := hz
  clear h hz
  by_cases hN : N ≤ 1048576
  · have hNI : ¬ (1048576 : Int) < (N : Int) := by omega
    have d0 : decide ((1048576 : Int) < (N : Int)) = false := by rw [decide_eq_false_iff_not]; omega
    go_enter Try.func7, Try.ntmps7
    go_wp2_with fail
    go_loopg [3, 4] N (fun k s3 s4 wr => ∃ i t : Nat, k = N - i ∧ i ≤ N ∧ s4 = .int .i64 (i : Nat) ∧ s3 = .int .i64 (t : Nat) ∧ 8 * N + 8 * psum L i ≤ t ∧ t ≤ 8388608 ∧ wr = w)
    case atStart => exact ⟨0, 8 * N, rfl, by omega, rfl, by go_num, by simp [psum], by omega, rfl⟩
    case round =>
      obtain ⟨i, t, hk, hi, rfl, rfl, ht, htb, rfl⟩ := hrel
      have HK : Hid _ := hk
      have HT : Hid (8 * N + 8 * psum L i ≤ t) := ht
      clear hk ht
      by_cases hiN : i < N
      · have hiI : (i : Int) < (N : Int) := by omega
        cases a with
        | none => exact absurd (H.out.nil rfl) (by omega)
        | some x =>
          have gc := H.out.cell x rfl i hiN
          obtain ⟨Ai, hAi⟩ : ∃ Ai, Ai = A i := ⟨_, rfl⟩
          rw [← hAi] at gc
          have HAI : Hid (A i = Ai) := hAi.symm
          clear hAi
          by_cases hL : L i ≤ 1048576
          · have hLI : ¬ (1048576 : Int) < (L i : Int) := by omega
            have dL : decide ((1048576 : Int) < (L i : Int)) = false := by rw [decide_eq_false_iff_not]; omega
            by_cases hs : t + 8 * L i ≤ 1048576
            · have hsI : ¬ (1048576 : Int) < (t : Int) + 8 * (L i : Int) := by omega
              have dS : decide ((1048576 : Int) < (t : Int) + 8 * (L i : Int)) = false := by rw [decide_eq_false_iff_not]; omega
              go_wp2_with fail
              go_loopg [3, 5] (L i) (fun k s3 s5 wx => ∃ j t' : Nat, k = L i - j ∧ j ≤ L i ∧ s5 = .int .i64 (j : Nat) ∧ s3 = .int .i64 (t' : Nat) ∧ 8 * N + 8 * psum L (i + 1) ≤ t' ∧ t' ≤ 1048576 ∧ wx = wr)
              case atStart => exact ⟨0, t + 8 * L i, by omega, by omega, rfl, by go_num, by have := HT.out; simp only [psum]; omega, by omega, rfl⟩
              case round =>
                obtain ⟨j, t', hk2, hj, rfl, rfl, ht2, htb2, rfl⟩ := hrel
                have HK2 : Hid _ := hk2
                have HT2 : Hid (8 * N + 8 * psum L (i + 1) ≤ t') := ht2
                clear hk2 ht2 hsI dS
                by_cases hjL : j < L i
                · have hjI : (j : Int) < (L i : Int) := by omega
                  obtain ⟨y, rfl⟩ : ∃ y, Ai = some y := by
                    cases Ai with
                    | none => exact absurd (H.out.zero i hiN HAI.out) (by omega)
                    | some y => exact ⟨y, rfl⟩
                  have gs := H.out.elem i hiN y HAI.out j hjL
                  have hzs := HZ.out i hiN j hjL
                  by_cases ho : t' + (V i j).size ≤ 1048576
                  · have hoI : ¬ (1048576 : Int) < (t' : Int) + ((V i j).size : Int) := by omega
                    go_wp2_with fail
                    go_roundg (L i - (j + 1))
                    case measure => have := HK2.out; omega
                    case rel => exact ⟨j + 1, t' + (V i j).size, by omega, by omega, by go_num, by go_num, by have := HT2.out; omega, by omega, rfl⟩
                  · have hoI : (1048576 : Int) < (t' : Int) + ((V i j).size : Int) := by omega
                    go_wp2_with fail
                    go_ret
                    exact ⟨rfl, t' + (V i j).size, by go_num, by omega, fun h => by omega⟩
                · have hjI : ¬ (j : Int) < (L i : Int) := by omega
                  go_wp2_with fail
                  go_roundg (N - (i + 1))
                  case measure => have := HK.out; omega
                  case rel => exact ⟨i + 1, t', by omega, by omega, by go_num, rfl, HT2.out, by omega, rfl⟩
            · have hsI : (1048576 : Int) < (t : Int) + 8 * (L i : Int) := by omega
              go_wp2_with fail
              go_ret
              exact ⟨rfl, t + 8 * L i, by go_num, by omega, fun h => by omega⟩
          · have hLI : (1048576 : Int) < (L i : Int) := by omega
            go_wp2_with fail
            go_ret
            exact ⟨rfl, 1048577, rfl, by omega, fun h => by omega⟩
      · have hiI : ¬ (i : Int) < (N : Int) := by omega
        obtain rfl : i = N := by omega
        go_wp2_with fail
        go_ret
        exact ⟨rfl, t, rfl, by omega, fun _ => HT.out⟩
  · have hNI : (1048576 : Int) < (N : Int) := by omega
    go_enter Try.func7, Try.ntmps7
    go_wp2_with fail
    go_ret
    exact ⟨rfl, 1048577, rfl, by omega, fun h => by omega⟩

set_option maxHeartbeats 4000000 in
set_option maxRecDepth 100000 in
theorem boolBytesOf_any (w : World) (a : Option Addr) (N c : Nat) (A : Nat → Option Addr) (L C : Nat → Nat) (V : Nat → Nat → Bool) (h : InRows w a N A L C (fun i j => .bool (V i j))) :
    Calls Try.prog 13 #[.slice a N c] w fun e w' => w' = w ∧ ∃ r : Nat, e = .returned (.int .i64 (r : Nat)) ∧ r ≤ 1125899906842624 ∧ (r ≤ 1048576 → 8 * N + psum L N ≤ r) := by
  have H : Hid (InRows w a N A L C (fun i j => .bool (V i j))) := h
  clear h
  by_cases hN : N ≤ 1048576
  · have hNI : ¬ (1048576 : Int) < (N : Int) := by omega
    have d0 : decide ((1048576 : Int) < (N : Int)) = false := by rw [decide_eq_false_iff_not]; omega
    go_enter Try.func13, Try.ntmps13
    go_wp2_with fail
    go_loopg [3, 4] N (fun k s3 s4 wr => ∃ i t : Nat, k = N - i ∧ i ≤ N ∧ s4 = .int .i64 (i : Nat) ∧ s3 = .int .i64 (t : Nat) ∧ 8 * N + psum L i ≤ t ∧ t ≤ 8388608 ∧ wr = w)
    case atStart => exact ⟨0, 8 * N, rfl, by omega, rfl, by go_num, by simp [psum], by omega, rfl⟩
    case round =>
      obtain ⟨i, t, hk, hi, rfl, rfl, ht, htb, rfl⟩ := hrel
      have HK : Hid _ := hk
      have HT : Hid (8 * N + psum L i ≤ t) := ht
      clear hk ht
      by_cases hiN : i < N
      · have hiI : (i : Int) < (N : Int) := by omega
        cases a with
        | none => exact absurd (H.out.nil rfl) (by omega)
        | some x =>
          have gc := H.out.cell x rfl i hiN
          by_cases hL : L i ≤ 1048576
          · have hLI : ¬ (1048576 : Int) < (L i : Int) := by omega
            by_cases hs : t + L i ≤ 1048576
            · have hsI : ¬ (1048576 : Int) < (t : Int) + (L i : Int) := by omega
              go_wp2_with fail
              go_roundg (N - (i + 1))
              case measure => have := HK.out; omega
              case rel => exact ⟨i + 1, t + L i, by omega, by omega, by go_num, by go_num, by have := HT.out; simp only [psum]; omega, by omega, rfl⟩
            · have hsI : (1048576 : Int) < (t : Int) + (L i : Int) := by omega
              go_wp2_with fail
              go_ret
              exact ⟨rfl, t + L i, by go_num, by omega, fun h => by omega⟩
          · have hLI : (1048576 : Int) < (L i : Int) := by omega
            go_wp2_with fail
            go_ret
            exact ⟨rfl, 1048577, rfl, by omega, fun h => by omega⟩
      · have hiI : ¬ (i : Int) < (N : Int) := by omega
        obtain rfl : i = N := by omega
        go_wp2_with fail
        go_ret
        exact ⟨rfl, t, rfl, by omega, fun _ => HT.out⟩
  · have hNI : (1048576 : Int) < (N : Int) := by omega
    go_enter Try.func13, Try.ntmps13
    go_wp2_with fail
    go_ret
    exact ⟨rfl, 1048577, rfl, by omega, fun h => by omega⟩
end Go.Proofs.Qxb6604637a
