/- The small readers of the parser: hex digits, scalar bytes, strings. -/
import Derived.Test.Qxb6602813aRows
import Derived.Test.Qxb6602813aKit
import Derived.Test.Qxb6602813aMePlain
namespace Go.Proofs.Qxb6602813a
open Go.RowKit
set_option linter.unusedVariables false

/-- what zzjIsHex answers -/
def isHexB (c : Nat) : Bool := (48 ≤ c && c ≤ 57) || (97 ≤ c && c ≤ 102) || (65 ≤ c && c ≤ 70)
theorem isHexB_true {c : Nat} (h : isHexB c = true) : c ≠ 34 ∧ c ≠ 92 := by
  unfold isHexB at h
  simp at h
  omega

set_option maxHeartbeats 4000000 in
set_option maxRecDepth 100000 in
theorem isHex_any (w : World) (c : Nat) : Calls Try.prog 26 #[.int .u8 (c : Nat)] w fun e w' => e = .returned (.bool (isHexB c)) ∧ w' = w := by
  obtain ⟨r, hr⟩ : ∃ r, r = isHexB c := ⟨_, rfl⟩
  rw [← hr]
  unfold isHexB at hr
  go_enter Try.func26, Try.ntmps26
  by_cases h1 : (48 : Int) ≤ (c : Int) <;> by_cases h2 : (c : Int) ≤ 57 <;> by_cases h3 : (97 : Int) ≤ (c : Int) <;> by_cases h4 : (c : Int) ≤ 102 <;> by_cases h5 : (65 : Int) ≤ (c : Int) <;> by_cases h6 : (c : Int) ≤ 70
  all_goals try omega
  all_goals
    first
    | (obtain rfl : r = true := by rw [hr]; simp; omega
       clear hr
       go_wp2_with fail
       go_ret
       exact ⟨rfl, rfl⟩)
    | (obtain rfl : r = false := by rw [hr]; simp; omega
       clear hr
       go_wp2_with fail
       go_ret
       exact ⟨rfl, rfl⟩)

/-- a byte of a scalar -/
def isScalar (c : Nat) : Bool := c != 34 && c != 91 && c != 93 && c != 123 && c != 125 && c != 44 && c != 58
theorem isScalar_true {c : Nat} (h : isScalar c = true) : c ≠ 34 ∧ c ≠ 91 ∧ c ≠ 123 ∧ c ≠ 93 ∧ c ≠ 125 ∧ c ≠ 44 := by
  unfold isScalar at h
  simp at h
  omega

set_option maxHeartbeats 4000000 in
set_option maxRecDepth 100000 in
theorem scalarByte_any (w : World) (c : Nat) : Calls Try.prog 28 #[.int .u8 (c : Nat)] w fun e w' => e = .returned (.bool (isScalar c)) ∧ w' = w := by
  by_cases h : c = 34 ∨ c = 91 ∨ c = 93 ∨ c = 123 ∨ c = 125 ∨ c = 44 ∨ c = 58
  · rcases h with h | h | h | h | h | h | h <;> subst h
    all_goals
      go_enter Try.func28, Try.ntmps28
      go_wp2_with fail
      go_ret
      exact ⟨rfl, rfl⟩
  · obtain ⟨r, hr⟩ : ∃ r, r = isScalar c := ⟨_, rfl⟩
    rw [← hr]
    unfold isScalar at hr
    obtain rfl : r = true := by rw [hr]; simp; omega
    have e1 : ((c : Int) == 34) = false := by rw [beq_eq_false_iff_ne]; omega
    have e2 : ((c : Int) == 91) = false := by rw [beq_eq_false_iff_ne]; omega
    have e3 : ((c : Int) == 123) = false := by rw [beq_eq_false_iff_ne]; omega
    have e4 : ((c : Int) == 93) = false := by rw [beq_eq_false_iff_ne]; omega
    have e5 : ((c : Int) == 125) = false := by rw [beq_eq_false_iff_ne]; omega
    have e6 : ((c : Int) == 44) = false := by rw [beq_eq_false_iff_ne]; omega
    have e7 : ((c : Int) == 58) = false := by rw [beq_eq_false_iff_ne]; omega
    clear hr h
    go_enter Try.func28, Try.ntmps28
    go_wp2_with fail
    go_ret
    exact ⟨rfl, rfl⟩

/-- what zzjString answers -/
def StrPost (N : Nat) (b : Nat → Nat) (i0 : Nat) (e : Ending) : Prop :=
  e = .returned (.tuple #[.int .i64 0, .bool false]) ∨ ∃ n : Nat, e = .returned (.tuple #[.int .i64 ((n + 1 : Nat) : Int), .bool true]) ∧ b i0 = 34 ∧ SRun N b (i0 + 1) n

set_option maxHeartbeats 8000000 in
set_option maxRecDepth 100000 in
theorem zzjString_any (w : World) (x : Addr) (N c : Nat) (b : Nat → Nat) (hN : N ≤ 65536) (hb : ∀ i, i < N → w.cell? (x.add i) = some (.int .u8 (b i : Nat))) (i0 : Nat) (hi0 : i0 < N) :
    Calls Try.prog 24 #[.slice (some x) N c, .int .i64 (i0 : Nat)] w fun e w' => StrPost N b i0 e ∧ ∃ m, w' = w.drewN m := by
  have HB : Hid _ := hb
  clear hb
  have g0 := HB.out i0 hi0
  have hi0I : (i0 : Int) < (N : Int) := by omega
  by_cases hq : b i0 = 34
  · rw [hq] at g0
    have HQ : Hid _ := hq
    clear hq
    have t1 : decide ((i0 : Int) < 0) = false := by rw [decide_eq_false_iff_not]; omega
    have t2 : decide (N ≤ i0) = false := by rw [decide_eq_false_iff_not]; omega
    have t3 : decide ((N : Int) ≤ (i0 : Int)) = false := by rw [decide_eq_false_iff_not]; omega
    go_enter Try.func24, Try.ntmps24
    go_wp2_with fail
    clear t1 t2 t3
    go_loopg [1] (N - (i0 + 1)) (fun k s1 wx => ∃ p : Nat, k = N - p ∧ s1 = .int .i64 (p : Nat) ∧ p ≤ N + 6 ∧ (∀ j, SRun N b p j → SRun N b (i0 + 1) j) ∧ ∃ m, wx = w.drewN m)
    case atStart => exact ⟨i0 + 1, rfl, by go_num, by omega, fun _ h => h, 0, rfl⟩
    case round =>
      obtain ⟨p, hk, rfl, hpN, hR, m, rfl⟩ := hrel
      have HK : Hid _ := hk
      have HR : Hid _ := hR
      clear hk hR g0
      by_cases hp : p < N
      · have hpI : (p : Int) < (N : Int) := by omega
        have gp : w.cell? (x.add p) = some (.int .u8 (b p : Nat)) := HB.out p hp
        by_cases c1 : b p = 34
        · rw [c1] at gp
          have C1 : Hid _ := c1
          clear c1
          go_wp2_with fail
          go_ret2
          exact ⟨.inr ⟨p, rfl, HQ.out, HR.out _ (.stop hp C1.out)⟩, _, rfl⟩
        · have e1 : ((b p : Int) == 34) = false := by rw [beq_eq_false_iff_ne]; omega
          have C1 : Hid _ := c1
          clear c1
          by_cases c2 : b p = 92
          · rw [c2] at gp
            have C2 : Hid _ := c2
            clear c2 e1 C1
            by_cases hp1 : p + 1 < N
            · have hp1I : ((p : Int) + 1 < (N : Int)) := by omega
              have gp1 : w.cell? ⟨x.block, x.off + (p + 1), none⟩ = some (.int .u8 (b (p + 1) : Nat)) := HB.out (p + 1) hp1
              by_cases c3 : b (p + 1) = 34 ∨ b (p + 1) = 92 ∨ b (p + 1) = 47 ∨ b (p + 1) = 98 ∨ b (p + 1) = 102 ∨ b (p + 1) = 110 ∨ b (p + 1) = 114 ∨ b (p + 1) = 116
              · rcases c3 with c3 | c3 | c3 | c3 | c3 | c3 | c3 | c3 <;> rw [c3] at gp1
                all_goals
                  clear c3
                  go_wp2_with fail
                  go_roundg (N - (p + 2))
                  case measure => have := HK.out; omega
                  case rel => exact ⟨p + 2, by omega, by go_num, by omega, fun j h => HR.out j (.esc hp C2.out h), _, rfl⟩
              · by_cases c4 : b (p + 1) = 117
                · rw [c4] at gp1
                  clear c3 c4
                  by_cases hp5 : p + 5 < N
                  · have gp2 : w.cell? ⟨x.block, x.off + (p + 2), none⟩ = some (.int .u8 (b (p + 2) : Nat)) := HB.out (p + 2) (by omega)
                    have gp3 : w.cell? ⟨x.block, x.off + (p + 3), none⟩ = some (.int .u8 (b (p + 3) : Nat)) := HB.out (p + 3) (by omega)
                    have gp4 : w.cell? ⟨x.block, x.off + (p + 4), none⟩ = some (.int .u8 (b (p + 4) : Nat)) := HB.out (p + 4) (by omega)
                    have gp5 : w.cell? ⟨x.block, x.off + (p + 5), none⟩ = some (.int .u8 (b (p + 5) : Nat)) := HB.out (p + 5) (by omega)
                    have h5I : ((p : Int) + 5 < (N : Int)) := by omega
                    cases d2 : isHexB (b (p + 2)) with
                    | false =>
                      go_wp2_with (go_at_call 26; refine (isHex_any _ _).mono ?_; rintro _ _ ⟨rfl, rfl⟩)
                      go_ret2
                      exact ⟨.inl rfl, _, rfl⟩
                    | true =>
                      cases d3 : isHexB (b (p + 3)) with
                      | false =>
                        go_wp2_with (go_at_call 26; refine (isHex_any _ _).mono ?_; rintro _ _ ⟨rfl, rfl⟩)
                        go_ret2
                        exact ⟨.inl rfl, _, rfl⟩
                      | true =>
                        cases d4 : isHexB (b (p + 4)) with
                        | false =>
                          go_wp2_with (go_at_call 26; refine (isHex_any _ _).mono ?_; rintro _ _ ⟨rfl, rfl⟩)
                          go_ret2
                          exact ⟨.inl rfl, _, rfl⟩
                        | true =>
                          cases d5 : isHexB (b (p + 5)) with
                          | false =>
                            go_wp2_with (go_at_call 26; refine (isHex_any _ _).mono ?_; rintro _ _ ⟨rfl, rfl⟩)
                            go_ret2
                            exact ⟨.inl rfl, _, rfl⟩
                          | true =>
                            go_wp2_with (go_at_call 26; refine (isHex_any _ _).mono ?_; rintro _ _ ⟨rfl, rfl⟩)
                            go_roundg (N - (p + 6))
                            case measure => have := HK.out; omega
                            case rel =>
                              refine ⟨p + 6, by omega, by go_num, by omega, fun j h => HR.out j (.esc hp C2.out ?_), _, rfl⟩
                              have k2 := isHexB_true d2
                              have k3 := isHexB_true d3
                              have k4 := isHexB_true d4
                              have k5 := isHexB_true d5
                              exact .chr (by omega) k2.1 k2.2 (.chr (by omega) k3.1 k3.2 (.chr (by omega) k4.1 k4.2 (.chr (by omega) k5.1 k5.2 h)))
                  · have h5I : ¬ ((p : Int) + 5 < (N : Int)) := by omega
                    go_wp2_with fail
                    go_ret2
                    exact ⟨.inl rfl, _, rfl⟩
                · have f1 : ((b (p + 1) : Int) == 34) = false := by rw [beq_eq_false_iff_ne]; omega
                  have f2 : ((b (p + 1) : Int) == 92) = false := by rw [beq_eq_false_iff_ne]; omega
                  have f3 : ((b (p + 1) : Int) == 47) = false := by rw [beq_eq_false_iff_ne]; omega
                  have f4 : ((b (p + 1) : Int) == 98) = false := by rw [beq_eq_false_iff_ne]; omega
                  have f5 : ((b (p + 1) : Int) == 102) = false := by rw [beq_eq_false_iff_ne]; omega
                  have f6 : ((b (p + 1) : Int) == 110) = false := by rw [beq_eq_false_iff_ne]; omega
                  have f7 : ((b (p + 1) : Int) == 114) = false := by rw [beq_eq_false_iff_ne]; omega
                  have f8 : ((b (p + 1) : Int) == 116) = false := by rw [beq_eq_false_iff_ne]; omega
                  have f9 : ((b (p + 1) : Int) == 117) = false := by rw [beq_eq_false_iff_ne]; omega
                  clear c3 c4
                  go_wp2_with fail
                  go_ret2
                  exact ⟨.inl rfl, _, rfl⟩
            · have hp1I : ¬ ((p : Int) + 1 < (N : Int)) := by omega
              go_wp2_with fail
              go_ret2
              exact ⟨.inl rfl, _, rfl⟩
          · have e2 : ((b p : Int) != 92) = true := by simp; omega
            have C2 : Hid _ := c2
            clear c2
            go_wp2_with fail
            go_roundg (N - (p + 1))
            case measure => have := HK.out; omega
            case rel => exact ⟨p + 1, by omega, by go_num, by omega, fun j h => HR.out j (.chr hp C1.out C2.out h), _, rfl⟩
      · have hpI : ¬ (p : Int) < (N : Int) := by omega
        go_wp2_with fail
        go_ret2
        exact ⟨.inl rfl, _, rfl⟩
  · have e1 : ((b i0 : Int) != 34) = true := by simp; omega
    clear hq
    go_enter Try.func24, Try.ntmps24
    go_wp2_with fail
    go_ret2
    exact ⟨.inl rfl, 0, rfl⟩
end Go.Proofs.Qxb6602813a
