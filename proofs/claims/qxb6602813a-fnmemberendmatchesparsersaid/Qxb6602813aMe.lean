/- memberEnd, walked. -/
import Derived.Test.Qxb6602813aRows
import Derived.Test.Qxb6602813aKit
import Derived.Test.Qxb6602813aMePlain
namespace Go.Proofs.Qxb6602813a
open Go.RowKit
set_option linter.unusedVariables false

set_option maxHeartbeats 4000000 in
set_option maxRecDepth 100000 in
theorem memberEnd_any (w : World) (x : Addr) (N c : Nat) (b : Nat → Nat) (hN : N ≤ 65536) (hb : ∀ i, i < N → w.cell? (x.add i) = some (.int .u8 (b i : Nat))) (i0 e0 : Nat) (h0 : Lands N b i0 0 e0) :
    Calls Try.prog 22 #[.slice (some x) N c, .int .i64 (i0 : Nat)] w fun e w' => e = .returned (.int .i64 (e0 : Nat)) ∧ w' = w := by
  have H0 : Hid _ := h0
  have HB : Hid _ := hb
  clear h0 hb
  go_enter Try.func22, Try.ntmps22
  go_wp2_with fail
  go_loopg [5, 6] (N - i0) (fun k s5 s6 wx => ∃ i d : Nat, k = N - i ∧ s6 = .int .i64 (i : Nat) ∧ s5 = .int .i64 (d : Nat) ∧ d ≤ i ∧ Lands N b i d e0 ∧ wx = w)
  case atStart => exact ⟨i0, 0, rfl, rfl, rfl, by omega, H0.out, rfl⟩
  case round =>
    obtain ⟨i, d, hk, rfl, rfl, hd, hL, rfl⟩ := hrel
    have HK : Hid _ := hk
    clear hk
    have hiN : i < N := by have := hL.facts; omega
    have g := HB.out i hiN
    cases hL with
    | ret h1 h2 =>
      rcases h2 with h2 | h2 | h2 <;> rw [h2] at g
      all_goals
        go_wp2_with fail
        go_ret
        exact ⟨rfl, rfl⟩
    | opn h1 h2 hL =>
      have HL : Hid _ := hL
      clear hL
      rcases h2 with h2 | h2 <;> rw [h2] at g
      all_goals
        go_wp2_with fail
        go_roundg (N - (i + 1))
        case measure => have := HK.out; omega
        case rel => exact ⟨i + 1, d + 1, by omega, by go_num, by go_num, by omega, HL.out, rfl⟩
    | @cls _ d' _ h1 h2 hL =>
      have HL : Hid _ := hL
      clear hL
      rcases h2 with h2 | h2 <;> rw [h2] at g
      all_goals
        go_wp2_with fail
        go_roundg (N - (i + 1))
        case measure => have := HK.out; omega
        case rel => exact ⟨i + 1, d', by omega, by go_num, by go_num, by omega, HL.out, rfl⟩
    | @com _ d' _ h1 h2 hL =>
      have HL : Hid _ := hL
      clear hL
      rw [h2] at g
      go_wp2_with fail
      go_roundg (N - (i + 1))
      case measure => have := HK.out; omega
      case rel => exact ⟨i + 1, d' + 1, by omega, by go_num, by go_num, by omega, HL.out, rfl⟩
    | oth h1 h2 h3 h4 h5 h6 h7 hL =>
      have HL : Hid _ := hL
      clear hL
      have e1 : ((b i : Int) == 34) = false := by rw [beq_eq_false_iff_ne]; omega
      have e2 : ((b i : Int) == 91) = false := by rw [beq_eq_false_iff_ne]; omega
      have e3 : ((b i : Int) == 123) = false := by rw [beq_eq_false_iff_ne]; omega
      have e4 : ((b i : Int) == 93) = false := by rw [beq_eq_false_iff_ne]; omega
      have e5 : ((b i : Int) == 125) = false := by rw [beq_eq_false_iff_ne]; omega
      have e6 : ((b i : Int) == 44) = false := by rw [beq_eq_false_iff_ne]; omega
      clear h2 h3 h4 h5 h6 h7
      go_wp2_with fail
      go_roundg (N - (i + 1))
      case measure => have := HK.out; omega
      case rel => exact ⟨i + 1, d, by omega, by go_num, rfl, by omega, HL.out, rfl⟩
    | @str _ j _ _ h1 h2 hs hL =>
      have HL : Hid _ := hL
      have hj := hs.facts
      have HS : Hid _ := hs
      clear hL hs
      rw [h2] at g
      go_wp2_with fail
      go_loopg [6] (N - (i + 1)) (fun k s6 wx => ∃ p : Nat, k = N - p ∧ s6 = .int .i64 (p : Nat) ∧ SRun N b p j ∧ wx = wr)
      case atStart => exact ⟨i + 1, rfl, by go_num, HS.out, rfl⟩
      case round =>
        obtain ⟨p, hk2, rfl, hR, rfl⟩ := hrel
        have HK2 : Hid _ := hk2
        clear hk2
        have hpN : p < N := by have := hR.facts; omega
        have gp := HB.out p hpN
        cases hR with
        | stop q1 q2 =>
          rw [q2] at gp
          go_wp2_with fail
          go_roundg (N - (j + 1))
          case measure => have := HK.out; omega
          case rel => exact ⟨j + 1, d, by omega, by go_num, rfl, by omega, HL.out, rfl⟩
        | esc q1 q2 hR =>
          have HR : Hid _ := hR
          clear hR
          rw [q2] at gp
          go_wp2_with fail
          go_roundg (N - (p + 2))
          case measure => have := HK2.out; omega
          case rel => exact ⟨p + 2, by omega, by go_num, HR.out, rfl⟩
        | chr q1 q2 q3 hR =>
          have HR : Hid _ := hR
          clear hR
          have e1 : ((b p : Int) == 34) = false := by rw [beq_eq_false_iff_ne]; omega
          have e2 : ((b p : Int) == 92) = false := by rw [beq_eq_false_iff_ne]; omega
          go_wp2_with fail
          go_roundg (N - (p + 1))
          case measure => have := HK2.out; omega
          case rel => exact ⟨p + 1, by omega, by go_num, HR.out, rfl⟩
end Go.Proofs.Qxb6602813a
