/- FnNotedFindsEachStored, walked. -/
import Derived.Test.Qxb6602813aNl
namespace Go.Proofs.Qxb6602813a
open Go.RowKit
set_option linter.unusedVariables false

set_option maxRecDepth 100000 in
theorem bytes13_any (w : World) (a0 a1 a2 a3 : Option Addr) (n0 n1 n2 n3 c0 c1 c2 c3 : Nat) (a : Int) :
    Calls Try.prog 13 #[.slice a0 n0 c0, .slice a1 n1 c1, .slice a2 n2 c2, .slice a3 n3 c3, .int .i64 a] w fun e w' => w' = w ∧ ∃ b : Bool, e = .returned (.bool b) := by
  go_enter Try.func13, Try.ntmps13
  go_wp2
  all_goals (go_ret; exact ⟨rfl, _, rfl⟩)

set_option maxRecDepth 100000 in
set_option maxHeartbeats 2000000 in
theorem law6_any (w : World) (a0 a1 a2 a3 : Option Addr) (n0 n1 n2 n3 c0 c1 c2 c3 : Nat) (O E F G : Nat → Nat) (a : Int)
    (h0 : a0 = none → n0 = 0) (h1 : a1 = none → n1 = 0) (h2 : a2 = none → n2 = 0) (h3 : a3 = none → n3 = 0)
    (k0 : ∀ x, a0 = some x → ∀ i, i < n0 → w.cell? (x.add i) = some (.int .u32 (O i : Nat))) (k1 : ∀ x, a1 = some x → ∀ i, i < n1 → w.cell? (x.add i) = some (.int .u32 (E i : Nat)))
    (k2 : ∀ x, a2 = some x → ∀ i, i < n2 → w.cell? (x.add i) = some (.int .u32 (F i : Nat))) (k3 : ∀ x, a3 = some x → ∀ i, i < n3 → w.cell? (x.add i) = some (.int .u32 (G i : Nat)))
    (hO : ∀ i, O i < 4294967296) (ha1 : -9223372036854775808 ≤ a) (ha2 : a < 9223372036854775808) :
    Calls Try.prog 6 #[.slice a0 n0 c0, .slice a1 n1 c1, .slice a2 n2 c2, .slice a3 n3 c3, .int .i64 a] w fun e w' => e = .returned (.bool true) ∧ Below w.heap.size w w' := by
  have K0 : Hid _ := k0
  have K1 : Hid _ := k1
  have K2 : Hid _ := k2
  have K3 : Hid _ := k3
  have H0 : Hid _ := h0
  have H1 : Hid _ := h1
  have H2 : Hid _ := h2
  have H3 : Hid _ := h3
  have HO : Hid _ := hO
  clear h0 h1 h2 h3 k0 k1 k2 k3 hO
  go_enter Try.func6, Try.ntmps6
  go_wp2_with fail
  refine (bytes13_any w a0 a1 a2 a3 n0 n1 n2 n3 c0 c1 c2 c3 a).mono ?_
  rintro e w' ⟨hw, b, rfl⟩
  rw [hw]
  clear hw w'
  cases b with
  | false =>
    go_wp2_with fail
    go_ret
    exact ⟨rfl, Below.refl _ _⟩
  | true =>
    by_cases t0 : n0 ≤ 65536 ∧ n1 ≤ 65536 ∧ n2 ≤ 65536 ∧ n3 ≤ 65536
    · obtain ⟨t0, t1, t2, t3⟩ := t0
      by_cases s0 : n1 = n0 ∧ n2 = n0 ∧ n3 = n0
      · obtain ⟨rfl, rfl, rfl⟩ := s0
        clear t1 t2 t3
        have d0 : decide ((65536 : Int) < (n3 : Int)) = false := by rw [decide_eq_false_iff_not]; omega
        by_cases r0 : a < 0 ∨ (n3 : Int) ≤ a
        · go_wp2_with fail
          all_goals (first | (go_ret; exact ⟨rfl, Below.refl _ _⟩) | (exfalso; omega))
        obtain ⟨p, hp⟩ : ∃ p : Nat, a = (p : Int) := ⟨a.toNat, by omega⟩
        subst hp
        have hpn : p < n3 := by omega
        have hpnI : (p : Int) < (n3 : Int) := by omega
        have r1 : decide (n3 ≤ p) = false := by rw [decide_eq_false_iff_not]; omega
        have r2 : decide ((p : Int) < 0) = false := by rw [decide_eq_false_iff_not]; omega
        clear r0 ha1 ha2
        go_wp2_with fail
        go_loopg [11] n3 (fun k s11 wx => ∃ j : Nat, k = n3 - j ∧ (j + 1 ≤ n3 ∨ j = 0) ∧ s11 = .int .i64 (j + 1 : Nat) ∧ (∀ i, i < j → O i < O (i + 1)) ∧ ∃ m, wx = w.drewN m)
        case atStart => exact ⟨0, rfl, .inr rfl, rfl, fun i hi => by omega, 0, rfl⟩
        case round =>
          obtain ⟨j, hk0, hj, rfl, hso, m, rfl⟩ := hrel
          have hk : Hid _ := hk0
          have HSO : Hid _ := hso
          clear hk0 hso
          by_cases hlt : j + 1 < n3
          · have hltI : (j : Int) + 1 < (n3 : Int) := by omega
            obtain ⟨x0, rfl⟩ : ∃ x, a0 = some x := by
              cases h : a0 with
              | none => have := H0.out h; omega
              | some x => exact ⟨x, rfl⟩
            have f0 : w.cell? ⟨x0.block, x0.off + (j + 1), none⟩ = some (.int .u32 (O (j + 1) : Nat)) := K0.out _ rfl (j + 1) hlt
            have p01 : (0 : Int) ≤ (j : Int) + 1 := by omega
            have f1 : w.cell? (x0.add j) = some (.int .u32 (O j : Nat)) := K0.out _ rfl j (by omega)
            have o0 := HO.out j
            have o1 := HO.out (j + 1)
            by_cases y : O (j + 1) ≤ O j
            · have y' : (O (j + 1) : Int) ≤ (O j : Int) := by omega
              go_upto_region 13 with fail
              go_region
              go_wp2_with fail
              go_ret
              exact ⟨rfl, (below_drewN (Below.refl _ _) m).drew⟩
            · have y' : ¬ (O (j + 1) : Int) ≤ (O j : Int) := by omega
              go_upto_region 13 with fail
              go_region
              go_wp2_with fail
              go_roundg (n3 - (j + 1))
              case measure => have := hk.out; omega
              case rel => exact ⟨j + 1, rfl, .inl (by omega), by go_num, fun i hi => by
                by_cases z : i < j
                · exact HSO.out i z
                · obtain rfl : i = j := by omega
                  omega, m + 1, rfl⟩
          · have hltI : ¬ (j : Int) + 1 < (n3 : Int) := by omega
            have hmono : ∀ i j, i < j → j < n3 → O i < O j := by
              intro i j' hij hj'
              induction j' with
              | zero => omega
              | succ t ih =>
                by_cases z : i = t
                · subst z; exact HSO.out i (by omega)
                · exact Nat.lt_trans (ih (by omega) (by omega)) (HSO.out t (by omega))
            have HM : Hid _ := hmono
            clear hmono
            have b0 := below_drewN (Below.refl w.heap.size w) m
            have kp0 : ∀ {p : Addr} {v : Value}, w.cell? p = some v → (w.drewN m).cell? p = some v := fun h => h
            have B0 : (w.drewN m).heap.size = w.heap.size := rfl
            generalize w.drewN m = W0 at *
            go_wp2_with fail
            refine (cloneU32_any W0 a0 n3 c0 O (by omega) H0.out (fun x hx i hi => kp0 (K0.out x hx i hi))).mono ?_
            rintro e W1 ⟨a0', c0', g0, rfl, p0, q0, b1⟩
            have Q0 : Hid _ := q0
            have P0 : Hid _ := p0
            clear q0 p0
            go_wp2_with fail
            refine (cloneU32_any W1 a1 n3 c1 E (by omega) H1.out (fun x hx i hi => cell_keep b1 (kp0 (K1.out x hx i hi)))).mono ?_
            rintro e W2 ⟨a1', c1', g1, rfl, p1, q1, b2⟩
            have Q1 : Hid _ := q1
            have P1 : Hid _ := p1
            clear q1 p1
            go_wp2_with fail
            refine (cloneU32_any W2 a2 n3 c2 F (by omega) H2.out (fun x hx i hi => cell_keep b2 (cell_keep b1 (kp0 (K2.out x hx i hi))))).mono ?_
            rintro e W3 ⟨a2', c2', g2, rfl, p2, q2, b3⟩
            have Q2 : Hid _ := q2
            have P2 : Hid _ := p2
            clear q2 p2
            go_wp2_with fail
            refine (cloneU32_any W3 a3 n3 c3 G (by omega) H3.out (fun x hx i hi => cell_keep b3 (cell_keep b2 (cell_keep b1 (kp0 (K3.out x hx i hi)))))).mono ?_
            rintro e W4 ⟨a3', c3', g3, rfl, p3, q3, b4⟩
            have Q3 : Hid _ := q3
            have P3 : Hid _ := p3
            clear q3 p3
            go_wp2_with fail
            have x0 := (P0.out (by omega)).1
            have x1 := (P1.out (by omega)).1
            have x2 := (P2.out (by omega)).1
            have x3 := (P3.out (by omega)).1
            subst x0 x1 x2 x3
            have f00 : W4.cell? ⟨g0, p, none⟩ = some (.int .u32 (O p : Nat)) := cell_keep b4 (cell_keep b3 (cell_keep b2 (Q0.out p hpn)))
            have o0 := HO.out p
            go_wp2_with fail
            refine (zzNoted_any W4 _ _ _ _ c0' c1' c2' c3' g0 g1 g2 g3 n3 O E F G (O p : Int) (fun _ => rfl) (fun _ => rfl) (fun _ => rfl) (fun _ => rfl)
              (fun i hi => cell_keep b4 (cell_keep b3 (cell_keep b2 (Q0.out i hi)))) (fun i hi => cell_keep b4 (cell_keep b3 (Q1.out i hi))) (fun i hi => cell_keep b4 (Q2.out i hi)) Q3.out t0 (fun i _ => HO.out i) (fun i j hij hj => ?_) (by omega) (by omega)).mono ?_
            · by_cases z : i = j
              · subst z; exact Nat.le_refl _
              · exact Nat.le_of_lt (HM.out i j (by omega) hj)
            rintro e W5 ⟨b5, hp⟩
            have hall : Below w.heap.size w W5 := b0.trans ((b1.mono (Nat.le_of_eq B0.symm)).trans ((b2.mono (by have := b1.size; omega)).trans ((b3.mono (by have := b1.size; have := b2.size; omega)).trans ((b4.mono (by have := b1.size; have := b2.size; have := b3.size; omega)).trans (b5.mono (by have := b1.size; have := b2.size; have := b3.size; have := b4.size; omega))))))
            have f0 : W5.cell? ⟨g0, p, none⟩ = some (.int .u32 (O p : Nat)) := cell_keep b5 f00
            have f1 : W5.cell? ⟨g1, p, none⟩ = some (.int .u32 (E p : Nat)) := cell_keep b5 (cell_keep b4 (cell_keep b3 (Q1.out p hpn)))
            have f2 : W5.cell? ⟨g2, p, none⟩ = some (.int .u32 (F p : Nat)) := cell_keep b5 (cell_keep b4 (Q2.out p hpn))
            have f3 : W5.cell? ⟨g3, p, none⟩ = some (.int .u32 (G p : Nat)) := cell_keep b5 (Q3.out p hpn)
            clear b0 b1 b2 b3 b4 b5 kp0 B0 Q0 Q1 Q2 Q3 P0 P1 P2 P3 f00
            rcases hp with ⟨i, hi, hia, hlo, rfl⟩ | ⟨hno, rfl⟩
            · obtain rfl : i = p := by
                by_cases z : i < p
                · have := HM.out i p z hpn; omega
                · by_cases z' : p < i
                  · have := HM.out p i z' hi; omega
                  · omega
              clear hia hlo
              go_wp2_with fail
              go_ret
              exact ⟨rfl, hall⟩
            · exact absurd rfl (hno p hpn)
      · go_wp2_with fail
        all_goals (go_ret; exact ⟨rfl, Below.refl _ _⟩)
    · go_wp2_with fail
      all_goals (go_ret; exact ⟨rfl, Below.refl _ _⟩)
end Go.Proofs.Qxb6602813a
