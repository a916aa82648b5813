/- The parser's arrays, on the ground of its values further on. -/
import Derived.Test.Qxb6602813aPo
namespace Go.Proofs.Qxb6602813a
open Go.RowKit
set_option linter.unusedVariables false

set_option maxHeartbeats 16000000 in
set_option maxRecDepth 100000 in
theorem zzjArray_step (w : World) (x : Addr) (N c : Nat) (b : Nat → Nat) (hN : N ≤ 65536) (hb : ∀ i, i < N → w.cell? (x.add i) = some (.int .u8 (b i : Nat))) (T : Int) (i0 : Nat) (hi0 : i0 < N) (hb0 : b i0 = 91) (hv : ValFrom w x N c b T i0) (m0 : Nat) :
    Calls Try.prog 27 #[.slice (some x) N c, .int .i64 (i0 : Nat), .int .i64 T] (w.drewN m0) fun e w' => ValPost N b T i0 e ∧ ∃ m, w' = w.drewN m := by
  have HB : Hid _ := hb
  have HB0 : Hid _ := hb0
  have HV : Hid (ValFrom w x N c b T i0) := hv
  clear hb hb0 hv
  by_cases h1 : i0 + 1 < N
  · have h1I : (i0 : Int) + 1 < (N : Int) := by omega
    have g1 : w.cell? ⟨x.block, x.off + (i0 + 1), none⟩ = some (.int .u8 (b (i0 + 1) : Nat)) := HB.out (i0 + 1) h1
    by_cases c1 : b (i0 + 1) = 93
    · rw [c1] at g1
      have C1 : Hid _ := c1
      clear c1
      go_enter Try.func27, Try.ntmps27
      go_wp2_with fail
      go_ret3
      refine ⟨.inr ⟨i0 + 2, -1, by go_num, by omega, by omega, keeps_box hi0 (.inl HB0.out) .refl h1 (.inl C1.out), .inl rfl⟩, _, rfl⟩
    · have e1 : ((b (i0 + 1) : Int) == 93) = false := by rw [beq_eq_false_iff_ne]; omega
      clear c1
      have t1 : decide ((i0 : Int) + 1 < (N : Int)) = true := by rw [decide_eq_true_iff]; omega
      go_enter Try.func27, Try.ntmps27
      go_wp2_with fail
      clear t1
      go_loopg [1, 9] (N - (i0 + 1)) (fun k s1 s9 wx => ∃ (p : Nat) (f : Int), k = N - p ∧ s1 = .int .i64 (p : Nat) ∧ s9 = .int .i64 f ∧ i0 < p ∧ p ≤ N ∧ KeepsIn N b (i0 + 1) p ∧ FoundOk N b T f ∧ ∃ m, wx = w.drewN m)
      case atStart => exact ⟨i0 + 1, -1, rfl, by go_num, rfl, by omega, by omega, .refl, .inl rfl, m0, rfl⟩
      case round =>
        obtain ⟨p, f, hk, rfl, rfl, hip, hpN, hKp, hFo, m, rfl⟩ := hrel
        have HK : Hid _ := hk
        have HKp : Hid _ := hKp
        have HFo : Hid _ := hFo
        clear hk hKp hFo g1 e1
        by_cases hp : p < N
        · have hpI : (p : Int) < (N : Int) := by omega
          go_wp2_with fail
          refine (HV.out p _ (by omega) (by omega)).mono ?_
          rintro e w2 ⟨hs, m3, rfl⟩
          rcases hs with rfl | ⟨q, f', rfl, hnq, hqN, hkq, hfo'⟩
          · go_wp2_with fail
            go_ret3
            exact ⟨.inl rfl, _, rfl⟩
          · have hqp : Keeps N b p q := hkq
            have HQP : Hid (Keeps N b p q) := hqp
            have HFo' : Hid (FoundOk N b T f') := hfo'
            clear hqp hfo' hkq
            by_cases hq : q < N
            · have hqI : (q : Int) < (N : Int) := by omega
              have gq : w.cell? (x.add q) = some (.int .u8 (b q : Nat)) := HB.out q hq
              by_cases c3 : b q = 93
              · rw [c3] at gq
                have HC3 : Hid (b q = 93) := c3
                clear c3
                have hlq : Hid (Lands N b p 0 q) := lands_end HQP.out hq (.inl HC3.out)
                have hfin : ∀ ff, FoundOk N b T ff → ValPost N b T i0 (.returned (.tuple #[.int .i64 ((q : Int) + 1), .bool true, .int .i64 ff])) := fun ff hff =>
                  .inr ⟨q + 1, ff, by go_num, by omega, by omega, keeps_box hi0 (.inl HB0.out) (KeepsIn.trans HKp.out (Keeps.inside HQP.out)) hq (.inl HC3.out), hff⟩
                have HFin : Hid _ := hfin
                clear hfin
                by_cases k1 : (0 : Int) ≤ f' <;> by_cases k2 : (p : Int) = T
                · have k2' : ((p : Int) == T) = true := by rw [beq_iff_eq]; exact k2
                  have K2 : Hid _ := k2
                  clear k2
                  go_wp2_with fail
                  go_ret3
                  exact ⟨HFin.out _ (.inr ⟨p, q, K2.out.symm, rfl, hlq.out⟩), _, rfl⟩
                · have k2' : ((p : Int) == T) = false := by rw [beq_eq_false_iff_ne]; exact k2
                  clear k2
                  go_wp2_with fail
                  go_ret3
                  exact ⟨HFin.out _ HFo'.out, _, rfl⟩
                · have k2' : ((p : Int) == T) = true := by rw [beq_iff_eq]; exact k2
                  have K2 : Hid _ := k2
                  clear k2
                  go_wp2_with fail
                  go_ret3
                  exact ⟨HFin.out _ (.inr ⟨p, q, K2.out.symm, rfl, hlq.out⟩), _, rfl⟩
                · have k2' : ((p : Int) == T) = false := by rw [beq_eq_false_iff_ne]; exact k2
                  clear k2
                  go_wp2_with fail
                  go_ret3
                  exact ⟨HFin.out _ HFo.out, _, rfl⟩
              · have e3 : ((b q : Int) == 93) = false := by rw [beq_eq_false_iff_ne]; omega
                by_cases c4 : b q = 44
                · rw [c4] at gq
                  have HC4 : Hid (b q = 44) := c4
                  clear c3 c4 e3
                  have hlq : Hid (Lands N b p 0 q) := lands_end HQP.out hq (.inr (.inr HC4.out))
                  have hfin : ∀ ff mm, FoundOk N b T ff → ∃ (p' : Nat) (f' : Int), N - (q + 1) = N - p' ∧ Value.int .i64 ((q : Int) + 1) = .int .i64 (p' : Nat) ∧ Value.int .i64 ff = .int .i64 f' ∧ i0 < p' ∧ p' ≤ N ∧ KeepsIn N b (i0 + 1) p' ∧ FoundOk N b T f' ∧ ∃ m, w.drewN mm = w.drewN m := fun ff mm hff =>
                    ⟨q + 1, ff, rfl, by go_num, rfl, by omega, by omega, KeepsIn.trans HKp.out (KeepsIn.trans (Keeps.inside HQP.out) (keepsIn_com hq HC4.out)), hff, mm, rfl⟩
                  have HFin : Hid _ := hfin
                  clear hfin
                  by_cases k1 : (0 : Int) ≤ f' <;> by_cases k2 : (p : Int) = T
                  · have k2' : ((p : Int) == T) = true := by rw [beq_iff_eq]; exact k2
                    have K2 : Hid _ := k2
                    clear k2
                    go_wp2_with fail
                    go_roundg (N - (q + 1))
                    case measure => have := HK.out; omega
                    case rel => exact HFin.out _ _ (.inr ⟨p, q, K2.out.symm, rfl, hlq.out⟩)
                  · have k2' : ((p : Int) == T) = false := by rw [beq_eq_false_iff_ne]; exact k2
                    clear k2
                    go_wp2_with fail
                    go_roundg (N - (q + 1))
                    case measure => have := HK.out; omega
                    case rel => exact HFin.out _ _ HFo'.out
                  · have k2' : ((p : Int) == T) = true := by rw [beq_iff_eq]; exact k2
                    have K2 : Hid _ := k2
                    clear k2
                    go_wp2_with fail
                    go_roundg (N - (q + 1))
                    case measure => have := HK.out; omega
                    case rel => exact HFin.out _ _ (.inr ⟨p, q, K2.out.symm, rfl, hlq.out⟩)
                  · have k2' : ((p : Int) == T) = false := by rw [beq_eq_false_iff_ne]; exact k2
                    clear k2
                    go_wp2_with fail
                    go_roundg (N - (q + 1))
                    case measure => have := HK.out; omega
                    case rel => exact HFin.out _ _ HFo.out
                · have e4 : ((b q : Int) != 44) = true := by simp; omega
                  clear c3 c4
                  by_cases k1 : (0 : Int) ≤ f' <;> by_cases k2 : (p : Int) = T
                  all_goals
                    first
                    | (have k2' : ((p : Int) == T) = true := by rw [beq_iff_eq]; exact k2
                       clear k2
                       go_wp2_with fail
                       go_ret3
                       exact ⟨.inl rfl, _, rfl⟩)
                    | (have k2' : ((p : Int) == T) = false := by rw [beq_eq_false_iff_ne]; exact k2
                       clear k2
                       go_wp2_with fail
                       go_ret3
                       exact ⟨.inl rfl, _, rfl⟩)
            · have hqI : ¬ (q : Int) < (N : Int) := by omega
              by_cases k1 : (0 : Int) ≤ f' <;> by_cases k2 : (p : Int) = T
              all_goals
                first
                | (have k2' : ((p : Int) == T) = true := by rw [beq_iff_eq]; exact k2
                   clear k2
                   go_wp2_with fail
                   go_ret3
                   exact ⟨.inl rfl, _, rfl⟩)
                | (have k2' : ((p : Int) == T) = false := by rw [beq_eq_false_iff_ne]; exact k2
                   clear k2
                   go_wp2_with fail
                   go_ret3
                   exact ⟨.inl rfl, _, rfl⟩)
        · have hpI : ¬ (p : Int) < (N : Int) := by omega
          go_wp2_with fail
          go_ret3
          exact ⟨.inl rfl, _, rfl⟩
  · have h1I : ¬ (i0 : Int) + 1 < (N : Int) := by omega
    go_enter Try.func27, Try.ntmps27
    go_wp2_with fail
    go_loopg [1] 0 (fun k s1 wx => k = 0 ∧ s1 = .int .i64 ((i0 : Int) + 1) ∧ wx = w.drewN m0)
    case atStart => exact ⟨rfl, by go_num, rfl⟩
    case round =>
      obtain ⟨hk, rfl, rfl⟩ := hrel
      go_wp2_with fail
      go_ret3
      exact ⟨.inl rfl, _, rfl⟩
end Go.Proofs.Qxb6602813a
