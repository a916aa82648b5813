/- The parser's values, and the whole object. -/
import Derived.Test.Qxb6602813aPa
namespace Go.Proofs.Qxb6602813a
open Go.RowKit
set_option linter.unusedVariables false

set_option maxHeartbeats 16000000 in
set_option maxRecDepth 100000 in
theorem zzjValue_step (w : World) (x : Addr) (N c : Nat) (b : Nat → Nat) (hN : N ≤ 65536) (hb : ∀ i, i < N → w.cell? (x.add i) = some (.int .u8 (b i : Nat))) (T : Int) (i0 : Nat) (hi0 : i0 ≤ N) (hv : ValFrom w x N c b T i0) (m0 : Nat) :
    Calls Try.prog 25 #[.slice (some x) N c, .int .i64 (i0 : Nat), .int .i64 T] (w.drewN m0) fun e w' => ValPost N b T i0 e ∧ ∃ m, w' = w.drewN m := by
  have HB : Hid (∀ i, i < N → w.cell? (x.add i) = some (.int .u8 (b i : Nat))) := hb
  have HV : Hid (ValFrom w x N c b T i0) := hv
  clear hb hv
  by_cases h1 : i0 < N
  · have h1I : (i0 : Int) < (N : Int) := by omega
    have g1 : w.cell? (x.add i0) = some (.int .u8 (b i0 : Nat)) := HB.out i0 h1
    by_cases c1 : b i0 = 34
    · rw [c1] at g1
      clear c1
      go_enter Try.func25, Try.ntmps25
      go_wp2_with fail
      refine (zzjString_any (w.drewN m0) x N c b hN (fun i hi => HB.out i hi) i0 h1).mono ?_
      rintro e w1 ⟨hs, m1, hw1⟩
      obtain ⟨m2, rfl⟩ := drewN_more hw1
      clear hw1
      rcases hs with rfl | ⟨n, rfl, hq, hrun⟩
      · go_wp2_with fail
        go_ret3
        exact ⟨.inl rfl, _, rfl⟩
      · have hn := hrun.facts
        have HQ : Hid _ := hq
        have HR : Hid _ := hrun
        clear hq hrun
        go_wp2_with fail
        go_ret3
        exact ⟨.inr ⟨n + 1, -1, by go_num, by omega, by omega, keeps_str h1 HQ.out HR.out, .inl rfl⟩, _, rfl⟩
    · by_cases c2 : b i0 = 123
      · rw [c2] at g1
        have HC2 : Hid _ := c2
        clear c1 c2
        go_enter Try.func25, Try.ntmps25
        go_wp2_with fail
        refine (zzjObject_step w x N c b hN HB.out T i0 h1 HC2.out HV.out m0).mono ?_
        rintro e w1 ⟨hs, m1, rfl⟩
        rcases hs with rfl | ⟨n, cnt, f, rfl, p1, p2, p3, p4, p5⟩
        · go_wp2_with fail
          go_ret3
          exact ⟨.inl rfl, _, rfl⟩
        · have hfin : ValPost N b T i0 (.returned (.tuple #[.int .i64 (n : Nat), .bool true, .int .i64 f])) := .inr ⟨n, f, rfl, p1, p2, p3, p4⟩
          have HF : Hid _ := hfin
          clear hfin p3 p4 p5
          go_wp2_with fail
          go_ret3
          exact ⟨HF.out, _, rfl⟩
      · by_cases c3 : b i0 = 91
        · rw [c3] at g1
          have HC3 : Hid _ := c3
          clear c1 c2 c3
          go_enter Try.func25, Try.ntmps25
          go_wp2_with fail
          refine (zzjArray_step w x N c b hN HB.out T i0 h1 HC3.out HV.out m0).mono ?_
          rintro e w1 ⟨hs, m1, rfl⟩
          rcases hs with rfl | ⟨n, f, rfl, p1, p2, p3, p4⟩
          · go_wp2_with fail
            go_ret3
            exact ⟨.inl rfl, _, rfl⟩
          · have hfin : ValPost N b T i0 (.returned (.tuple #[.int .i64 (n : Nat), .bool true, .int .i64 f])) := .inr ⟨n, f, rfl, p1, p2, p3, p4⟩
            have HF : Hid _ := hfin
            clear hfin p3 p4
            go_wp2_with fail
            go_ret3
            exact ⟨HF.out, _, rfl⟩
        · have e1 : ((b i0 : Int) == 34) = false := by rw [beq_eq_false_iff_ne]; omega
          have e2 : ((b i0 : Int) == 123) = false := by rw [beq_eq_false_iff_ne]; omega
          have e3 : ((b i0 : Int) == 91) = false := by rw [beq_eq_false_iff_ne]; omega
          have t1 : decide ((i0 : Int) < 0) = false := by rw [decide_eq_false_iff_not]; omega
          have t2 : decide (N ≤ i0) = false := by rw [decide_eq_false_iff_not]; omega
          have t3 : decide ((N : Int) ≤ (i0 : Int)) = false := by rw [decide_eq_false_iff_not]; omega
          clear c1 c2 c3
          go_enter Try.func25, Try.ntmps25
          go_wp2_with fail
          clear t1 t2 t3 e1 e2 e3
          go_loopg [15] (N - i0) (fun k s15 wx => ∃ p : Nat, k = N - p ∧ s15 = .int .i64 (p : Nat) ∧ i0 ≤ p ∧ p ≤ N ∧ Keeps N b i0 p ∧ ∃ m, wx = w.drewN m)
          case atStart => exact ⟨i0, rfl, rfl, by omega, by omega, .refl, m0, rfl⟩
          case round =>
            obtain ⟨p, hk, rfl, hip, hpN, hKp, m, rfl⟩ := hrel
            have HK : Hid _ := hk
            have HKp : Hid (Keeps N b i0 p) := hKp
            clear hk hKp
            by_cases hp : p < N
            · have hpI : (p : Int) < (N : Int) := by omega
              have gp : w.cell? (x.add p) = some (.int .u8 (b p : Nat)) := HB.out p hp
              cases hs : isScalar (b p) with
              | true =>
                have HS : Hid _ := hs
                go_wp2_with (go_at_call 28; refine (scalarByte_any _ _).mono ?_; rintro _ _ ⟨rfl, rfl⟩)
                go_roundg (N - (p + 1))
                case measure => have := HK.out; omega
                case rel =>
                  have k := isScalar_true HS.out
                  exact ⟨p + 1, by omega, by go_num, by omega, by omega, Keeps.trans HKp.out (keeps_oth hp k.1 k.2.1 k.2.2.1 k.2.2.2.1 k.2.2.2.2.1 k.2.2.2.2.2), _, rfl⟩
              | false =>
                by_cases hpi : p = i0
                · subst hpi
                  go_wp2_with (go_at_call 28; refine (scalarByte_any _ _).mono ?_; rintro _ _ ⟨rfl, rfl⟩)
                  go_ret3
                  exact ⟨.inl rfl, _, rfl⟩
                · have hpi' : ((p : Int) == (i0 : Int)) = false := by rw [beq_eq_false_iff_ne]; omega
                  go_wp2_with (go_at_call 28; refine (scalarByte_any _ _).mono ?_; rintro _ _ ⟨rfl, rfl⟩)
                  go_ret3
                  exact ⟨.inr ⟨p, -1, rfl, by omega, by omega, HKp.out, .inl rfl⟩, _, rfl⟩
            · have hpI : ¬ (p : Int) < (N : Int) := by omega
              have hpi' : ((p : Int) == (i0 : Int)) = false := by rw [beq_eq_false_iff_ne]; omega
              go_wp2_with fail
              go_ret3
              exact ⟨.inr ⟨p, -1, rfl, by omega, by omega, HKp.out, .inl rfl⟩, _, rfl⟩
  · have h1I : ¬ (i0 : Int) < (N : Int) := by omega
    go_enter Try.func25, Try.ntmps25
    go_wp2_with fail
    go_ret3
    exact ⟨.inl rfl, _, rfl⟩

theorem zzjValue_all (w : World) (x : Addr) (N c : Nat) (b : Nat → Nat) (hN : N ≤ 65536) (hb : ∀ i, i < N → w.cell? (x.add i) = some (.int .u8 (b i : Nat))) (T : Int) : ∀ k i, N - i ≤ k → ValFrom w x N c b T i := by
  intro k
  induction k with
  | zero => intro i hi i' m h1 h2; omega
  | succ k ih =>
    intro i hi i' m h1 h2
    exact zzjValue_step w x N c b hN hb T i' h2 (ih i' (by omega)) m

theorem zzjObject_any (w : World) (x : Addr) (N c : Nat) (b : Nat → Nat) (hN : N ≤ 65536) (hb : ∀ i, i < N → w.cell? (x.add i) = some (.int .u8 (b i : Nat))) (T : Int) (i0 : Nat) (hi0 : i0 < N) (hb0 : b i0 = 123) (m0 : Nat) :
    Calls Try.prog 21 #[.slice (some x) N c, .int .i64 (i0 : Nat), .int .i64 T] (w.drewN m0) fun e w' => ObjPost N b T i0 e ∧ ∃ m, w' = w.drewN m :=
  zzjObject_step w x N c b hN hb T i0 hi0 hb0 (zzjValue_all w x N c b hN hb T N i0 (by omega)) m0

/-- what zzjWholeObject answers -/
def WholePost (N : Nat) (b : Nat → Nat) (T : Int) (e : Ending) : Prop :=
  e = .returned (.tuple #[.bool false, .int .i64 (-1), .int .i64 0]) ∨
  ∃ (cnt : Nat) (f : Int), e = .returned (.tuple #[.bool true, .int .i64 f, .int .i64 (cnt : Nat)]) ∧ FoundOk N b T f ∧ 0 < N ∧ ∃ k, Chain N b 1 k N ∧ (cnt = 0 ∧ k = 1 ∨ cnt = k)

set_option maxHeartbeats 16000000 in
set_option maxRecDepth 100000 in
theorem zzjWhole_any (w : World) (a : Option Addr) (N c : Nat) (b : Nat → Nat) (hN : N ≤ 65536) (ha : a = none → N = 0) (hb : ∀ x, a = some x → ∀ i, i < N → w.cell? (x.add i) = some (.int .u8 (b i : Nat))) (T : Int) :
    Calls Try.prog 15 #[.slice a N c, .int .i64 T] w fun e w' => WholePost N b T e ∧ ∃ m, w' = w.drewN m := by
  by_cases h0 : N = 0
  · subst h0
    clear hb ha
    go_enter Try.func15, Try.ntmps15
    go_wp2_with fail
    go_ret3
    exact ⟨.inl rfl, 0, rfl⟩
  · cases a with
    | none => exact absurd (ha rfl) h0
    | some x =>
      have hbx := hb x rfl
      have HB : Hid (∀ i, i < N → w.cell? (x.add i) = some (.int .u8 (b i : Nat))) := hbx
      have g0 : w.cell? x = some (.int .u8 (b 0 : Nat)) := by have := hbx 0 (by omega); simpa [Addr.add] using this
      have e0 : ((N : Int) == 0) = false := by rw [beq_eq_false_iff_ne]; omega
      have e0I : (0 : Int) < (N : Int) := by omega
      clear hb hbx ha
      by_cases c0 : b 0 = 123
      · rw [c0] at g0
        have HC0 : Hid _ := c0
        clear c0
        go_enter Try.func15, Try.ntmps15
        go_wp2_with fail
        refine (zzjObject_any w x N c b hN HB.out T 0 (by omega) HC0.out 0).mono ?_
        rintro e w1 ⟨hs, m1, rfl⟩
        rcases hs with rfl | ⟨n, cnt, f, rfl, p1, p2, p3, p4, p5⟩
        · go_wp2_with fail
          go_ret3
          exact ⟨.inl rfl, _, rfl⟩
        · by_cases hn : n = N
          · subst hn
            have hfin : WholePost n b T (.returned (.tuple #[.bool true, .int .i64 f, .int .i64 (cnt : Nat)])) := .inr ⟨cnt, f, rfl, p4, by omega, p5⟩
            have HF : Hid _ := hfin
            clear hfin p3 p4 p5
            go_wp2_with fail
            go_ret3
            exact ⟨HF.out, _, rfl⟩
          · have hn' : ((n : Int) != (N : Int)) = true := by simp; omega
            clear p3 p4 p5
            go_wp2_with fail
            go_ret3
            exact ⟨.inl rfl, _, rfl⟩
      · have e1 : ((b 0 : Int) != 123) = true := by simp; omega
        clear c0
        go_enter Try.func15, Try.ntmps15
        go_wp2_with fail
        go_ret3
        exact ⟨.inl rfl, 0, rfl⟩
end Go.Proofs.Qxb6602813a
