/- The law from its beginning. -/
import Derived.Test.Qxb6604637aLwF
import Derived.Test.Qxb6604637aCr
import Derived.Test.Qxb6604637aBz
namespace Go.Proofs.Qxb6604637a
open Go.RowKit
set_option linter.unusedVariables false

theorem InRows.below {w w' : World} {a : Option Addr} {N : Nat} {A : Nat → Option Addr} {L C : Nat → Nat} {V : Nat → Nat → Value} (h : InRows w a N A L C V) (hB : Below w.heap.size w w') : InRows w' a N A L C V := by
  refine ⟨h.nil, fun x hx i hi => ?_, h.zero, fun i hi y hy j hj => ?_⟩
  · rw [hB.cell (block_lt_of_cell (h.cell x hx i hi))]; exact h.cell x hx i hi
  · rw [hB.cell (block_lt_of_cell (h.elem i hi y hy j hj))]; exact h.elem i hi y hy j hj
theorem InRows.drewN {w : World} {a : Option Addr} {N : Nat} {A : Nat → Option Addr} {L C : Nat → Nat} {V : Nat → Nat → Value} (h : InRows w a N A L C V) (k : Nat) : InRows (w.drewN k) a N A L C V := h.below (below_drewN (Below.refl _ _) k)
theorem Rows.congrL {w : World} {a : Option Addr} {N : Nat} {L L' : Nat → Nat} {V : Nat → Nat → Value} (h : Rows w a N L V) (e : ∀ i, i < N → L i = L' i) : Rows w a N L' V := by
  obtain ⟨g, A, C, h0, h⟩ := h
  refine ⟨g, A, C, h0, fun i hi => ?_⟩
  obtain ⟨h1, h2, h3⟩ := h i hi
  rw [← e i hi]
  exact ⟨h1, h2, h3⟩
theorem psum_congr {L L' : Nat → Nat} : ∀ {N : Nat}, (∀ i, i < N → L i = L' i) → psum L N = psum L' N
  | 0, _ => rfl
  | N + 1, h => by simp only [psum]; rw [psum_congr (fun i hi => h i (by omega)), h N (by omega)]
theorem psum_ge {L : Nat → Nat} {i N : Nat} (h : i < N) : L i ≤ psum L N := by
  have := psum_mono L (show i + 1 ≤ N by omega)
  simp only [psum] at this
  omega

set_option maxHeartbeats 16000000 in
set_option maxRecDepth 100000 in
theorem law4_any (w : World) (aO aI aB aV : Option Addr) (NO NI NB NV cO cI cB cV : Nat) (AO AI AB AV : Nat → Option Addr) (LO LI LB LV CO CI CB CV : Nat → Nat) (O I V : Nat → Nat → ByteArray) (B : Nat → Nat → Bool)
    (hO : InRows w aO NO AO LO CO (fun i j => .string (O i j))) (hI : InRows w aI NI AI LI CI (fun i j => .string (I i j))) (hB : InRows w aB NB AB LB CB (fun i j => .bool (B i j))) (hV : InRows w aV NV AV LV CV (fun i j => .string (V i j)))
    (zO : ∀ i j, (O i j).size ≤ maxLen) (zI : ∀ i j, (I i j).size ≤ maxLen)
    (howe : ∀ (L : Nat → Nat) (N : Nat), KeyOwed (foldD (fun i => docF O I V B i (L i)) N) (fun k => (flatL O L N).getD k ByteArray.empty) (fun k => (flatL I L N).getD k ByteArray.empty) (fun k => (flatL V L N).getD k ByteArray.empty) (fun k => (flatL B L N).getD k false) (psum L N)) :
    Calls Try.prog 4 #[.slice aO NO cO, .slice aI NI cI, .slice aB NB cB, .slice aV NV cV] w (LwPost w) := by
  have HO : Hid (InRows w aO NO AO LO CO (fun i j => .string (O i j))) := hO
  have HI : Hid (InRows w aI NI AI LI CI (fun i j => .string (I i j))) := hI
  have HB : Hid (InRows w aB NB AB LB CB (fun i j => .bool (B i j))) := hB
  have HV : Hid (InRows w aV NV AV LV CV (fun i j => .string (V i j))) := hV
  have HZ : Hid ((∀ i j, (O i j).size ≤ maxLen) ∧ (∀ i j, (I i j).size ≤ maxLen)) := ⟨zO, zI⟩
  have HOWE : Hid (∀ (L : Nat → Nat) (N : Nat), KeyOwed (foldD (fun i => docF O I V B i (L i)) N) (fun k => (flatL O L N).getD k ByteArray.empty) (fun k => (flatL I L N).getD k ByteArray.empty) (fun k => (flatL V L N).getD k ByteArray.empty) (fun k => (flatL B L N).getD k false) (psum L N)) := howe
  clear hO hI hB hV zO zI howe
  go_enter Try.func4, Try.ntmps4
  go_wp2_with fail
  refine (bytes12_any w aO NO cO AO LO CO O HO.out aI NI cI AI LI CI I HI.out aB NB cB AB LB CB B HB.out aV NV cV AV LV CV V HV.out).mono ?_
  rintro e w1 ⟨hw1, r, rfl, hr⟩
  rw [hw1]
  clear hw1 w1
  cases r with
  | false =>
    clear hr
    go_wp2_with fail
    go_ret
    exact ⟨rfl, Below.refl _ _⟩
  | true =>
    obtain ⟨sO, sI, sV⟩ := hr rfl
    have HSO : Hid (Short NO LO O) := sO
    have HSI : Hid (Short NI LI I) := sI
    have HSV : Hid (Short NV LV V) := sV
    clear hr sO sI sV
    go_wp2_with fail
    refine (bytesOf_any w aO NO cO AO LO CO O HO.out HSO.out).mono ?_
    rintro e w1 ⟨hw1, r1, rfl, hr1, hq1⟩
    rw [hw1]
    clear hw1 w1
    have Q1 : Hid (r1 ≤ 1048576 → 8 * NO + 8 * psum LO NO ≤ r1) := hq1
    clear hq1
    go_wp2_with fail
    refine (bytesOf_any w aI NI cI AI LI CI I HI.out HSI.out).mono ?_
    rintro e w1 ⟨hw1, r2, rfl, hr2, hq2⟩
    rw [hw1]
    clear hw1 w1
    have Q2 : Hid (r2 ≤ 1048576 → 8 * NI + 8 * psum LI NI ≤ r2) := hq2
    clear hq2
    go_wp2_with fail
    refine (boolBytesOf_any w aB NB cB AB LB CB B HB.out).mono ?_
    rintro e w1 ⟨hw1, r3, rfl, hr3, hq3⟩
    rw [hw1]
    clear hw1 w1
    clear hq3
    go_wp2_with fail
    refine (bytesOf_any w aV NV cV AV LV CV V HV.out HSV.out).mono ?_
    rintro e w1 ⟨hw1, r4, rfl, hr4, hq4⟩
    rw [hw1]
    clear hw1 w1
    clear hq4
    by_cases hsum : r1 + r2 + r3 + r4 ≤ 1048576
    · have hsI : ¬ (1048576 : Int) < (r1 : Int) + (r2 : Int) + (r3 : Int) + (r4 : Int) := by omega
      have b1 := Q1.out (by omega)
      have hNO : NO ≤ 131072 := by omega
      have hPO : psum LO NO ≤ 131072 := by omega
      clear b1
      by_cases e1 : NI = NO
      · by_cases e2 : NB = NO
        · by_cases e3 : NV = NO
          · subst e1 e2 e3
            obtain ⟨N, hNe⟩ : ∃ N, N = NV := ⟨_, rfl⟩
            subst hNe
            go_wp2_with fail
            go_loopg [9] N (fun k s9 wr => ∃ i : Nat, k = N - i ∧ i ≤ N ∧ s9 = .int .i64 (i : Nat) ∧ (∀ x, x < i → LI x = LO x ∧ LB x = LO x ∧ LV x = LO x) ∧ ∃ d, wr = w.drewN d)
            case atStart => exact ⟨0, rfl, by omega, rfl, fun x hx => absurd hx (by omega), 0, rfl⟩
            case round =>
              obtain ⟨i, hk, hi, rfl, heq, d, rfl⟩ := hrel
              have HK : Hid _ := hk
              have HEQ : Hid (∀ x, x < i → LI x = LO x ∧ LB x = LO x ∧ LV x = LO x) := heq
              clear hk heq
              by_cases hiN : i < N
              · have hiI : (i : Int) < (N : Int) := by omega
                cases aO with
                | none => exact absurd (HO.out.nil rfl) (by omega)
                | some xO =>
                cases aI with
                | none => exact absurd (HI.out.nil rfl) (by omega)
                | some xI =>
                cases aB with
                | none => exact absurd (HB.out.nil rfl) (by omega)
                | some xB =>
                cases aV with
                | none => exact absurd (HV.out.nil rfl) (by omega)
                | some xV =>
                have g1 := HO.out.cell xO rfl i hiN
                have g2 := HI.out.cell xI rfl i hiN
                have g3 := HB.out.cell xB rfl i hiN
                have g4 := HV.out.cell xV rfl i hiN
                rcases Classical.em (LI i = LO i) with q1 | q1
                · have f1 : ((LI i : Int) != (LO i : Int)) = false := by simp; omega
                  have Q1' : Hid (LI i = LO i) := q1
                  clear q1
                  rcases Classical.em (LB i = LO i) with q2 | q2
                  · have f2 : ((LB i : Int) != (LO i : Int)) = false := by simp; omega
                    have Q2' : Hid (LB i = LO i) := q2
                    clear q2
                    rcases Classical.em (LV i = LO i) with q3 | q3
                    · have f3 : ((LV i : Int) != (LO i : Int)) = false := by simp; omega
                      have Q3' : Hid (LV i = LO i) := q3
                      clear q3
                      go_wp2_with fail
                      go_quiet (fail)
                      go_wp2_with fail
                      go_roundg (N - (i + 1))
                      case measure => have := HK.out; omega
                      case rel =>
                        refine ⟨i + 1, by omega, by omega, by go_num, fun x hx => ?_, ?_⟩
                        case refine_2 => first | exact ⟨_, rfl⟩ | exact drew2 _ _ _
                        by_cases e : x = i
                        · subst e; exact ⟨Q1'.out, Q2'.out, Q3'.out⟩
                        · exact HEQ.out x (by omega)
                    · have f3 : ((LV i : Int) != (LO i : Int)) = true := by simp; omega
                      clear q3
                      go_wp2_with fail
                      go_quiet (fail)
                      go_wp2_with fail
                      go_ret
                      exact ⟨rfl, (by first | exact below_drewN (Below.refl _ _) _ | exact below_drewN (below_drewN (Below.refl _ _) _) _)⟩
                  · have f2 : ((LB i : Int) != (LO i : Int)) = true := by simp; omega
                    clear q2
                    go_wp2_with fail
                    go_quiet (fail)
                    go_wp2_with fail
                    go_ret
                    exact ⟨rfl, (by first | exact below_drewN (Below.refl _ _) _ | exact below_drewN (below_drewN (Below.refl _ _) _) _)⟩
                · have f1 : ((LI i : Int) != (LO i : Int)) = true := by simp; omega
                  clear q1
                  go_wp2_with fail
                  go_quiet (fail)
                  go_wp2_with fail
                  go_ret
                  exact ⟨rfl, (by first | exact below_drewN (Below.refl _ _) _ | exact below_drewN (below_drewN (Below.refl _ _) _) _)⟩
              · have hiI : ¬ (i : Int) < (N : Int) := by omega
                obtain rfl : i = N := by omega
                have hLO : ∀ x, x < i → LO x ≤ 1048576 := fun x hx => by have := psum_ge (L := LO) hx; omega
                have HLO : Hid (∀ x, x < i → LO x ≤ 1048576) := hLO
                clear hLO
                have hB0 : Below w.heap.size w (w.drewN d) := below_drewN (Below.refl _ _) d
                have HB0 : Hid (Below w.heap.size w (w.drewN d)) := hB0
                clear hB0
                go_wp2_with fail
                refine (cloneRows_any (w.drewN d) aO i cO AO LO CO O (HO.out.drewN d) (by omega) HLO.out).mono ?_
                rintro e w2 ⟨a2, c2, rfl, hR2, hB2⟩
                have HR2 : Hid (Rows w2 a2 i LO (fun i j => .string (O i j))) := hR2
                have B2 : Hid (Below w.heap.size w w2) := Below.trans' HB0.out hB2 (by show w.heap.size ≤ w.heap.size; omega)
                clear hR2 hB2
                go_wp2_with fail
                refine (cloneRows_any w2 aI i cI AI LI CI I (HI.out.below B2.out) (by omega) (fun x hx => by rw [(HEQ.out x hx).1]; exact HLO.out x hx)).mono ?_
                rintro e w3 ⟨a3, c3, rfl, hR3, hB3⟩
                have HR3 : Hid (Rows w3 a3 i LO (fun i j => .string (I i j))) := hR3.congrL (fun x hx => (HEQ.out x hx).1)
                have HR32 : Hid (Rows w3 a2 i LO (fun i j => .string (O i j))) := HR2.out.below hB3
                have B3 : Hid (Below w.heap.size w w3) := Below.trans' B2.out hB3 B2.out.size
                clear hR3 hB3 HR2
                go_wp2_with fail
                refine (cloneBoolRows_any w3 aB i cB AB LB CB B (HB.out.below B3.out) (by omega) (fun x hx => by rw [(HEQ.out x hx).2.1]; exact HLO.out x hx)).mono ?_
                rintro e w4 ⟨a4, c4, rfl, hR4, hB4⟩
                have HR4 : Hid (Rows w4 a4 i LO (fun i j => .bool (B i j))) := hR4.congrL (fun x hx => (HEQ.out x hx).2.1)
                have HR43 : Hid (Rows w4 a3 i LO (fun i j => .string (I i j))) := HR3.out.below hB4
                have HR42 : Hid (Rows w4 a2 i LO (fun i j => .string (O i j))) := HR32.out.below hB4
                have B4 : Hid (Below w.heap.size w w4) := Below.trans' B3.out hB4 B3.out.size
                clear hR4 hB4 HR3 HR32
                go_wp2_with fail
                refine (cloneRows_any w4 aV i cV AV LV CV V (HV.out.below B4.out) (by omega) (fun x hx => by rw [(HEQ.out x hx).2.2]; exact HLO.out x hx)).mono ?_
                rintro e w5 ⟨a5, c5, rfl, hR5, hB5⟩
                have HR5 : Hid (Rows w5 a5 i LO (fun i j => .string (V i j))) := hR5.congrL (fun x hx => (HEQ.out x hx).2.2)
                have HR54 : Hid (Rows w5 a4 i LO (fun i j => .bool (B i j))) := HR4.out.below hB5
                have HR53 : Hid (Rows w5 a3 i LO (fun i j => .string (I i j))) := HR43.out.below hB5
                have HR52 : Hid (Rows w5 a2 i LO (fun i j => .string (O i j))) := HR42.out.below hB5
                have B5 : Hid (Below w.heap.size w w5) := Below.trans' B4.out hB5 B4.out.size
                clear hR5 hB5 HR4 HR43 HR42
                have hZ := HZ.out
                have hle : ∀ x, x < i → LO x = (if x < i then LO x else 0) := fun x hx => by rw [if_pos hx]
                have hps : psum LO i = psum (fun x => if x < i then LO x else 0) i := psum_congr hle
                simp only []
                iterate 7 go_step
                exact lwF w w5 B5.out a2 a3 a4 a5 i c2 c3 c4 c5 O I V B (fun x => if x < i then LO x else 0) (by omega) (fun x => by
                  by_cases hx : x < i
                  · simp only [hx, if_true]; exact HLO.out x hx
                  · simp only [hx, if_false]; omega) (by rw [← hps]; omega) (HR52.out.congrL hle) (HR53.out.congrL hle) (HR54.out.congrL hle) (HR5.out.congrL hle) hZ.1 hZ.2 (HOWE.out _ _)
          · have f1 : ((NI : Int) != (NO : Int)) = false := by simp; omega
            have f2 : ((NB : Int) != (NO : Int)) = false := by simp; omega
            have f3 : ((NV : Int) != (NO : Int)) = true := by simp; omega
            clear e1 e2 e3
            go_wp2_with fail
            go_ret
            exact ⟨rfl, Below.refl _ _⟩
        · have f1 : ((NI : Int) != (NO : Int)) = false := by simp; omega
          have f2 : ((NB : Int) != (NO : Int)) = true := by simp; omega
          clear e1 e2
          go_wp2_with fail
          go_ret
          exact ⟨rfl, Below.refl _ _⟩
      · have f1 : ((NI : Int) != (NO : Int)) = true := by simp; omega
        clear e1
        go_wp2_with fail
        go_ret
        exact ⟨rfl, Below.refl _ _⟩
    · have hsI : (1048576 : Int) < (r1 : Int) + (r2 : Int) + (r3 : Int) + (r4 : Int) := by omega
      go_wp2_with fail
      go_ret
      exact ⟨rfl, Below.refl _ _⟩
end Go.Proofs.Qxb6604637a
