/- The parser's objects, on the ground of its values further on. -/
import Derived.Test.Qxb6602813aRows
import Derived.Test.Qxb6602813aKit
import Derived.Test.Qxb6602813aMePlain
import Derived.Test.Qxb6602813aPs
namespace Go.Proofs.Qxb6602813a
open Go.RowKit
set_option linter.unusedVariables false

/-- what is found: nothing, or where the scan from the target lands -/
def FoundOk (N : Nat) (b : Nat → Nat) (T f : Int) : Prop := f = -1 ∨ ∃ t q : Nat, T = (t : Int) ∧ f = (q : Int) ∧ Lands N b t 0 q

/-- what zzjValue and zzjArray answer -/
def ValPost (N : Nat) (b : Nat → Nat) (T : Int) (i : Nat) (e : Ending) : Prop :=
  e = .returned (.tuple #[.int .i64 0, .bool false, .int .i64 (-1)]) ∨
  ∃ (n : Nat) (f : Int), e = .returned (.tuple #[.int .i64 (n : Nat), .bool true, .int .i64 f]) ∧ i < n ∧ n ≤ N ∧ Keeps N b i n ∧ FoundOk N b T f

/-- what zzjObject answers -/
def ObjPost (N : Nat) (b : Nat → Nat) (T : Int) (i : Nat) (e : Ending) : Prop :=
  e = .returned (.tuple #[.int .i64 0, .bool false, .int .i64 (-1), .int .i64 0]) ∨
  ∃ (n cnt : Nat) (f : Int), e = .returned (.tuple #[.int .i64 (n : Nat), .bool true, .int .i64 f, .int .i64 (cnt : Nat)]) ∧ i < n ∧ n ≤ N ∧ Keeps N b i n ∧ FoundOk N b T f ∧ ∃ k, Chain N b (i + 1) k n ∧ (cnt = 0 ∧ k = 1 ∨ cnt = k)

/-- the value reader keeps its promise from index i + 1 on -/
def ValFrom (w : World) (x : Addr) (N c : Nat) (b : Nat → Nat) (T : Int) (i : Nat) : Prop :=
  ∀ i' m, i < i' → i' ≤ N → Calls Try.prog 25 #[.slice (some x) N c, .int .i64 (i' : Nat), .int .i64 T] (w.drewN m) fun e w' => ValPost N b T i' e ∧ ∃ m', w' = w.drewN m'

theorem results_tmp4 {fn : Func} {t u v x : Tmp} (h : fn.results = #[.tmp t, .tmp u, .tmp v, .tmp x]) (tmps : Array Value) (P : Program) (w : World) :
    (results fn tmps).run P w = .ok (.tuple #[tmps.getD t undef, tmps.getD u undef, tmps.getD v undef, tmps.getD x undef]) w := by
  simp [results, h]
theorem drewN_more {w w' : World} {m n : Nat} (h : w' = (w.drewN m).drewN n) : ∃ k, w' = w.drewN k := ⟨m + n, by rw [h, World.drewN_drewN]⟩

set_option maxHeartbeats 16000000 in
set_option maxRecDepth 100000 in
theorem zzjObject_step (w : World) (x : Addr) (N c : Nat) (b : Nat → Nat) (hN : N ≤ 65536) (hb : ∀ i, i < N → w.cell? (x.add i) = some (.int .u8 (b i : Nat))) (T : Int) (i0 : Nat) (hi0 : i0 < N) (hb0 : b i0 = 123) (hv : ValFrom w x N c b T i0) (m0 : Nat) :
    Calls Try.prog 21 #[.slice (some x) N c, .int .i64 (i0 : Nat), .int .i64 T] (w.drewN m0) fun e w' => ObjPost N b T i0 e ∧ ∃ m, w' = w.drewN m := by
  have HB : Hid _ := hb
  have HB0 : Hid _ := hb0
  have HV : Hid (ValFrom w x N c b T i0) := hv
  clear hb hb0 hv
  by_cases h1 : i0 + 1 < N
  · have h1I : (i0 : Int) + 1 < (N : Int) := by omega
    have g1 : w.cell? ⟨x.block, x.off + (i0 + 1), none⟩ = some (.int .u8 (b (i0 + 1) : Nat)) := HB.out (i0 + 1) h1
    by_cases c1 : b (i0 + 1) = 125
    · rw [c1] at g1
      have C1 : Hid _ := c1
      clear c1
      go_enter Try.func21, Try.ntmps21
      go_wp2_with fail
      refine bodyPost_ret (results_tmp4 rfl _ _ _) rfl ?_
      refine ⟨.inr ⟨i0 + 2, 0, -1, by go_num, by omega, by omega, keeps_box hi0 (.inr HB0.out) .refl h1 (.inr C1.out), .inl rfl, 1, .last (.ret h1 (.inr (.inl C1.out))) C1.out, .inl ⟨rfl, rfl⟩⟩, _, rfl⟩
    · have e1 : ((b (i0 + 1) : Int) == 125) = false := by rw [beq_eq_false_iff_ne]; omega
      clear c1
      have t1 : decide ((i0 : Int) + 1 < (N : Int)) = true := by rw [decide_eq_true_iff]; omega
      go_enter Try.func21, Try.ntmps21
      go_wp2_with fail
      clear t1
      go_loopg [1, 10, 11] (N - (i0 + 1)) (fun k s1 s10 s11 wx => ∃ (p cnt : Nat) (f : Int), k = N - p ∧ s1 = .int .i64 (p : Nat) ∧ s10 = .int .i64 f ∧ s11 = .int .i64 (cnt : Nat) ∧ i0 < p ∧ p ≤ N ∧ cnt ≤ p ∧ KeepsIn N b (i0 + 1) p ∧ Led N b (i0 + 1) cnt p ∧ FoundOk N b T f ∧ ∃ m, wx = w.drewN m)
      case atStart => exact ⟨i0 + 1, 0, -1, rfl, by go_num, rfl, rfl, by omega, by omega, by omega, .refl, .none, .inl rfl, m0, rfl⟩
      case round =>
        obtain ⟨p, cnt, f, hk, rfl, rfl, rfl, hip, hpN, hcp, hKp, hLd, hFo, m, rfl⟩ := hrel
        have HK : Hid _ := hk
        have HKp : Hid _ := hKp
        have HLd : Hid _ := hLd
        have HFo : Hid _ := hFo
        clear hk hKp hLd hFo g1 e1
        by_cases hp : p < N
        · have hpI : (p : Int) < (N : Int) := by omega
          go_wp2_with fail
          refine (zzjString_any (w.drewN m) x N c b hN (fun i hi => HB.out i hi) p hp).mono ?_
          rintro e w1 ⟨hs, m1, hw1⟩
          obtain ⟨m2, rfl⟩ := drewN_more hw1
          clear hw1
          rcases hs with rfl | ⟨n, rfl, hq, hrun⟩
          · go_wp2_with fail
            refine bodyPost_ret (results_tmp4 rfl _ _ _) rfl ?_
            exact ⟨.inl rfl, _, rfl⟩
          · have hn := hrun.facts
            have hkey : Keeps N b p (n + 1) := keeps_str hp hq hrun
            have HKey : Hid (Keeps N b p (n + 1)) := hkey
            clear hq hrun hkey
            by_cases hn1 : n + 1 < N
            · have hn1I : (n : Int) + 1 < (N : Int) := by omega
              have gn : w.cell? ⟨x.block, x.off + (n + 1), none⟩ = some (.int .u8 (b (n + 1) : Nat)) := HB.out (n + 1) hn1
              by_cases c2 : b (n + 1) = 58
              · rw [c2] at gn
                have HC2 : Hid _ := c2
                clear c2
                go_wp2_with fail
                refine (HV.out (n + 2) _ (by omega) (by omega)).mono ?_
                rintro e w2 ⟨hs, m3, rfl⟩
                rcases hs with rfl | ⟨q, f', rfl, hnq, hqN, hkq, hfo'⟩
                · go_wp2_with fail
                  refine bodyPost_ret (results_tmp4 rfl _ _ _) rfl ?_
                  exact ⟨.inl rfl, _, rfl⟩
                · have hqp : Keeps N b p q := (Keeps.trans HKey.out (keeps_oth hn1 (by rw [HC2.out]; decide) (by rw [HC2.out]; decide) (by rw [HC2.out]; decide) (by rw [HC2.out]; decide) (by rw [HC2.out]; decide) (by rw [HC2.out]; decide))).trans hkq
                  have HQP : Hid (Keeps N b p q) := hqp
                  have HFo' : Hid (FoundOk N b T f') := hfo'
                  clear hqp hfo' hkq HKey HC2 gn
                  by_cases hq : q < N
                  · have hqI : (q : Int) < (N : Int) := by omega
                    have gq : w.cell? (x.add q) = some (.int .u8 (b q : Nat)) := HB.out q hq
                    by_cases c3 : b q = 125
                    · rw [c3] at gq
                      have HC3 : Hid (b q = 125) := c3
                      clear c3
                      have hlq : Hid (Lands N b p 0 q) := lands_end HQP.out hq (.inr (.inl HC3.out))
                      have hfin : ∀ ff, FoundOk N b T ff → ObjPost N b T i0 (.returned (.tuple #[.int .i64 ((q : Int) + 1), .bool true, .int .i64 ff, .int .i64 ((cnt : Int) + 1)])) := fun ff hff =>
                        .inr ⟨q + 1, cnt + 1, ff, by go_num, by omega, by omega, keeps_box hi0 (.inr HB0.out) (KeepsIn.trans HKp.out (Keeps.inside HQP.out)) hq (.inr HC3.out), hff, 1 + cnt, HLd.out.chain _ _ (.last hlq.out HC3.out), .inr (by omega)⟩
                      have HFin : Hid _ := hfin
                      clear hfin
                      by_cases k1 : (0 : Int) ≤ f' <;> by_cases k2 : (p : Int) = T
                      · have k2' : ((p : Int) == T) = true := by rw [beq_iff_eq]; exact k2
                        have K2 : Hid _ := k2
                        clear k2
                        go_wp2_with fail
                        refine bodyPost_ret (results_tmp4 rfl _ _ _) rfl ?_
                        exact ⟨HFin.out _ (.inr ⟨p, q, K2.out.symm, rfl, hlq.out⟩), _, rfl⟩
                      · have k2' : ((p : Int) == T) = false := by rw [beq_eq_false_iff_ne]; exact k2
                        clear k2
                        go_wp2_with fail
                        refine bodyPost_ret (results_tmp4 rfl _ _ _) rfl ?_
                        exact ⟨HFin.out _ HFo'.out, _, rfl⟩
                      · have k2' : ((p : Int) == T) = true := by rw [beq_iff_eq]; exact k2
                        have K2 : Hid _ := k2
                        clear k2
                        go_wp2_with fail
                        refine bodyPost_ret (results_tmp4 rfl _ _ _) rfl ?_
                        exact ⟨HFin.out _ (.inr ⟨p, q, K2.out.symm, rfl, hlq.out⟩), _, rfl⟩
                      · have k2' : ((p : Int) == T) = false := by rw [beq_eq_false_iff_ne]; exact k2
                        clear k2
                        go_wp2_with fail
                        refine bodyPost_ret (results_tmp4 rfl _ _ _) rfl ?_
                        exact ⟨HFin.out _ HFo.out, _, rfl⟩
                    · have e3 : ((b q : Int) == 125) = false := by rw [beq_eq_false_iff_ne]; omega
                      by_cases c4 : b q = 44
                      · rw [c4] at gq
                        have HC4 : Hid (b q = 44) := c4
                        clear c3 c4 e3
                        have hlq : Hid (Lands N b p 0 q) := lands_end HQP.out hq (.inr (.inr HC4.out))
                        have hfin : ∀ ff mm, FoundOk N b T ff → ∃ (p' cnt' : Nat) (f' : Int), N - (q + 1) = N - p' ∧ Value.int .i64 ((q : Int) + 1) = .int .i64 (p' : Nat) ∧ Value.int .i64 ff = .int .i64 f' ∧ Value.int .i64 ((cnt : Int) + 1) = .int .i64 (cnt' : Nat) ∧ i0 < p' ∧ p' ≤ N ∧ cnt' ≤ p' ∧ KeepsIn N b (i0 + 1) p' ∧ Led N b (i0 + 1) cnt' p' ∧ FoundOk N b T f' ∧ ∃ m, w.drewN mm = w.drewN m := fun ff mm hff =>
                          ⟨q + 1, cnt + 1, ff, rfl, by go_num, rfl, by go_num, by omega, by omega, by omega, KeepsIn.trans HKp.out (KeepsIn.trans (Keeps.inside HQP.out) (keepsIn_com hq HC4.out)), .more HLd.out hlq.out HC4.out, hff, mm, rfl⟩
                        have HFin : Hid _ := hfin
                        clear hfin
                        by_cases k1 : (0 : Int) ≤ f' <;> by_cases k2 : (p : Int) = T
                        · have k2' : ((p : Int) == T) = true := by rw [beq_iff_eq]; exact k2
                          have K2 : Hid _ := k2
                          clear k2
                          go_wp2_with fail
                          go_roundg (N - (q + 1))
                          case measure => have := HK.out; omega
                          case rel => exact HFin.out _ _ (.inr ⟨p, q, K2.out.symm, rfl, hlq.out⟩)
                        · have k2' : ((p : Int) == T) = false := by rw [beq_eq_false_iff_ne]; exact k2
                          clear k2
                          go_wp2_with fail
                          go_roundg (N - (q + 1))
                          case measure => have := HK.out; omega
                          case rel => exact HFin.out _ _ HFo'.out
                        · have k2' : ((p : Int) == T) = true := by rw [beq_iff_eq]; exact k2
                          have K2 : Hid _ := k2
                          clear k2
                          go_wp2_with fail
                          go_roundg (N - (q + 1))
                          case measure => have := HK.out; omega
                          case rel => exact HFin.out _ _ (.inr ⟨p, q, K2.out.symm, rfl, hlq.out⟩)
                        · have k2' : ((p : Int) == T) = false := by rw [beq_eq_false_iff_ne]; exact k2
                          clear k2
                          go_wp2_with fail
                          go_roundg (N - (q + 1))
                          case measure => have := HK.out; omega
                          case rel => exact HFin.out _ _ HFo.out
                      · have e4 : ((b q : Int) != 44) = true := by simp; omega
                        clear c3 c4
                        by_cases k1 : (0 : Int) ≤ f' <;> by_cases k2 : (p : Int) = T
                        all_goals
                          first
                          | (have k2' : ((p : Int) == T) = true := by rw [beq_iff_eq]; exact k2
                             clear k2
                             go_wp2_with fail
                             refine bodyPost_ret (results_tmp4 rfl _ _ _) rfl ?_
                             exact ⟨.inl rfl, _, rfl⟩)
                          | (have k2' : ((p : Int) == T) = false := by rw [beq_eq_false_iff_ne]; exact k2
                             clear k2
                             go_wp2_with fail
                             refine bodyPost_ret (results_tmp4 rfl _ _ _) rfl ?_
                             exact ⟨.inl rfl, _, rfl⟩)
                  · have hqI : ¬ (q : Int) < (N : Int) := by omega
                    by_cases k1 : (0 : Int) ≤ f' <;> by_cases k2 : (p : Int) = T
                    all_goals
                      first
                      | (have k2' : ((p : Int) == T) = true := by rw [beq_iff_eq]; exact k2
                         clear k2
                         go_wp2_with fail
                         refine bodyPost_ret (results_tmp4 rfl _ _ _) rfl ?_
                         exact ⟨.inl rfl, _, rfl⟩)
                      | (have k2' : ((p : Int) == T) = false := by rw [beq_eq_false_iff_ne]; exact k2
                         clear k2
                         go_wp2_with fail
                         refine bodyPost_ret (results_tmp4 rfl _ _ _) rfl ?_
                         exact ⟨.inl rfl, _, rfl⟩)
              · have e2 : ((b (n + 1) : Int) != 58) = true := by simp; omega
                clear c2
                go_wp2_with fail
                refine bodyPost_ret (results_tmp4 rfl _ _ _) rfl ?_
                exact ⟨.inl rfl, _, rfl⟩
            · have hn1I : ¬ (n : Int) + 1 < (N : Int) := by omega
              go_wp2_with fail
              refine bodyPost_ret (results_tmp4 rfl _ _ _) rfl ?_
              exact ⟨.inl rfl, _, rfl⟩
        · have hpI : ¬ (p : Int) < (N : Int) := by omega
          go_wp2_with fail
          refine bodyPost_ret (results_tmp4 rfl _ _ _) rfl ?_
          exact ⟨.inl rfl, _, rfl⟩
  · have h1I : ¬ (i0 : Int) + 1 < (N : Int) := by omega
    go_enter Try.func21, Try.ntmps21
    go_wp2_with fail
    go_loopg [1] 0 (fun k s1 wx => k = 0 ∧ s1 = .int .i64 ((i0 : Int) + 1) ∧ wx = w.drewN m0)
    case atStart => exact ⟨rfl, by go_num, rfl⟩
    case round =>
      obtain ⟨hk, rfl, rfl⟩ := hrel
      go_wp2_with fail
      refine bodyPost_ret (results_tmp4 rfl _ _ _) rfl ?_
      exact ⟨.inl rfl, _, rfl⟩
end Go.Proofs.Qxb6602813a
