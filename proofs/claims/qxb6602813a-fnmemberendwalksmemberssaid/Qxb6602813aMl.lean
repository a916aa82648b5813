/- The two laws on memberEnd, walked. -/
import Derived.Test.Qxb6602813aMe
import Derived.Test.Qxb6602813aPv
import Derived.Test.Qxb6602813aCl
namespace Go.Proofs.Qxb6602813a
open Go.RowKit
set_option linter.unusedVariables false

theorem cell_keepM {A B : World} (b : Below A.heap.size A B) {p : Addr} {v : Value} (h : A.cell? p = some v) : B.cell? p = some v := by
  rw [b.cell (block_lt_of_cell h)]; exact h

theorem cells_at {w : World} {g N : Nat} {b : Nat → Nat} (h : ∀ i, i < N → w.cell? ⟨g, i, none⟩ = some (.int .u8 (b i : Nat))) : ∀ i, i < N → w.cell? ((⟨g, 0, none⟩ : Addr).add i) = some (.int .u8 (b i : Nat)) := by
  intro i hi
  have := h i hi
  by_cases h0 : i = 0
  · subst h0; exact this
  · simpa [Addr.add, h0] using this

set_option maxRecDepth 100000 in
theorem zzMemberEnd_any (w : World) (x : Addr) (N c : Nat) (b : Nat → Nat) (hN : N ≤ 65536) (hb : ∀ i, i < N → w.cell? (x.add i) = some (.int .u8 (b i : Nat))) (i0 e0 : Nat) (h0 : Lands N b i0 0 e0) :
    Calls Try.prog 17 #[.slice (some x) N c, .int .i64 (i0 : Nat)] w fun e w' => e = .returned (.int .i64 (e0 : Nat)) ∧ w' = w := by
  have H0 : Hid _ := h0
  have HB : Hid _ := hb
  clear h0 hb
  go_enter Try.func17, Try.ntmps17
  go_wp2_with fail
  refine (memberEnd_any w x N c b hN HB.out i0 e0 H0.out).mono ?_
  rintro e w' ⟨rfl, rfl⟩
  go_wp2_with fail
  go_ret
  exact ⟨rfl, rfl⟩

set_option maxRecDepth 100000 in
theorem bytes14_any (w : World) (a0 : Option Addr) (n0 c0 : Nat) (a : Int) :
    Calls Try.prog 14 #[.slice a0 n0 c0, .int .i64 a] w fun e w' => w' = w ∧ ∃ b : Bool, e = .returned (.bool b) := by
  go_enter Try.func14, Try.ntmps14
  go_wp2
  all_goals (go_ret; exact ⟨rfl, _, rfl⟩)

set_option maxRecDepth 100000 in
theorem bytes18_any (w : World) (a0 : Option Addr) (n0 c0 : Nat) :
    Calls Try.prog 18 #[.slice a0 n0 c0] w fun e w' => w' = w ∧ ∃ b : Bool, e = .returned (.bool b) := by
  go_enter Try.func18, Try.ntmps18
  go_wp2
  all_goals (go_ret; exact ⟨rfl, _, rfl⟩)

set_option maxHeartbeats 2000000 in
set_option maxRecDepth 100000 in
theorem law7_any (w : World) (a : Option Addr) (N c : Nat) (b : Nat → Nat) (T : Int) (ha : a = none → N = 0) (hb : ∀ x, a = some x → ∀ i, i < N → w.cell? (x.add i) = some (.int .u8 (b i : Nat))) :
    Calls Try.prog 7 #[.slice a N c, .int .i64 T] w fun e w' => e = .returned (.bool true) ∧ Below w.heap.size w w' := by
  have HA : Hid (a = none → N = 0) := ha
  have HB : Hid (∀ x, a = some x → ∀ i, i < N → w.cell? (x.add i) = some (.int .u8 (b i : Nat))) := hb
  clear ha hb
  go_enter Try.func7, Try.ntmps7
  go_wp2_with fail
  refine (bytes14_any w a N c T).mono ?_
  rintro e w' ⟨hw, r, rfl⟩
  rw [hw]
  clear hw w'
  cases r with
  | false =>
    go_wp2_with fail
    go_ret
    exact ⟨rfl, Below.refl _ _⟩
  | true =>
    by_cases hN : N ≤ 65536
    · have d0 : decide ((65536 : Int) < (N : Int)) = false := by rw [decide_eq_false_iff_not]; omega
      by_cases hT0 : (T : Int) < 0
      · go_wp2_with fail
        go_ret
        exact ⟨rfl, Below.refl _ _⟩
      · by_cases hTN : T < (N : Int)
        · have hTN' : ¬ (N : Int) ≤ T := by omega
          go_wp2_with fail
          refine (zzjWhole_any w a N c b hN HA.out HB.out T).mono ?_
          rintro e w' ⟨hs, m, rfl⟩
          rcases hs with rfl | ⟨cnt, f, rfl, hfo, hNp, _⟩
          · go_wp2_with fail
            go_ret
            exact ⟨rfl, below_drewN (Below.refl _ _) _⟩
          · rcases hfo with rfl | ⟨t, q, rfl, rfl, hl⟩
            · go_wp2_with fail
              go_ret
              exact ⟨rfl, below_drewN (Below.refl _ _) _⟩
            · have HL : Hid _ := hl
              clear hl
              go_wp2_with fail
              refine (cloneBytes_any (w.drewN m) a N c b hN HA.out (fun x hx i hi => HB.out x hx i hi)).mono ?_
              rintro e w2 ⟨a', c', g, rfl, hg, hcell, hbel⟩
              obtain ⟨rfl, hg2⟩ := hg hNp
              have hbel2 : Below w.heap.size w w2 := (below_drewN (Below.refl _ _) _).trans hbel
              have HBel : Hid _ := hbel2
              have HC : Hid (∀ i, i < N → w2.cell? ⟨g, i, none⟩ = some (.int .u8 (b i : Nat))) := hcell
              clear hbel hbel2 hcell hg hg2
              go_wp2_with fail
              refine (zzMemberEnd_any w2 ⟨g, 0, none⟩ N c' b hN (cells_at HC.out) t q HL.out).mono ?_
              rintro e w3 ⟨rfl, rfl⟩
              go_wp2_with fail
              go_ret
              exact ⟨rfl, HBel.out⟩
        · have hTN' : (N : Int) ≤ T := by omega
          go_wp2_with fail
          go_ret
          exact ⟨rfl, Below.refl _ _⟩
    · have d0 : decide ((65536 : Int) < (N : Int)) = true := by rw [decide_eq_true_iff]; omega
      go_wp2_with fail
      go_ret
      exact ⟨rfl, Below.refl _ _⟩

set_option maxHeartbeats 4000000 in
set_option maxRecDepth 100000 in
theorem law8_any (w : World) (a : Option Addr) (N c : Nat) (b : Nat → Nat) (ha : a = none → N = 0) (hb : ∀ x, a = some x → ∀ i, i < N → w.cell? (x.add i) = some (.int .u8 (b i : Nat))) :
    Calls Try.prog 8 #[.slice a N c] w fun e w' => e = .returned (.bool true) ∧ Below w.heap.size w w' := by
  have HA : Hid (a = none → N = 0) := ha
  have HB : Hid (∀ x, a = some x → ∀ i, i < N → w.cell? (x.add i) = some (.int .u8 (b i : Nat))) := hb
  clear ha hb
  go_enter Try.func8, Try.ntmps8
  go_wp2_with fail
  refine (bytes18_any w a N c).mono ?_
  rintro e w' ⟨hw, r, rfl⟩
  rw [hw]
  clear hw w'
  cases r with
  | false =>
    go_wp2_with fail
    go_ret
    exact ⟨rfl, Below.refl _ _⟩
  | true =>
    by_cases hN : N ≤ 65536
    · have d0 : decide ((65536 : Int) < (N : Int)) = false := by rw [decide_eq_false_iff_not]; omega
      go_wp2_with fail
      refine (zzjWhole_any w a N c b hN HA.out HB.out (-1)).mono ?_
      rintro e w' ⟨hs, m, rfl⟩
      rcases hs with rfl | ⟨cnt, f, rfl, hfo, hNp, k, hch, hcnt⟩
      · go_wp2_with fail
        go_ret
        exact ⟨rfl, below_drewN (Below.refl _ _) _⟩
      · clear hfo
        have hkf := hch.facts
        have HCh : Hid (Chain N b 1 k N) := hch
        clear hch
        go_wp2_with fail
        refine (cloneBytes_any (w.drewN m) a N c b hN HA.out (fun x hx i hi => HB.out x hx i hi)).mono ?_
        rintro e w2 ⟨a', c', g, rfl, hg, hcell, hbel⟩
        obtain ⟨rfl, hg2⟩ := hg hNp
        have hbel2 : Below w.heap.size w w2 := (below_drewN (Below.refl _ _) _).trans hbel
        have HBel : Hid _ := hbel2
        have HC : Hid (∀ i, i < N → w2.cell? ⟨g, i, none⟩ = some (.int .u8 (b i : Nat))) := hcell
        clear hbel hbel2 hcell hg hg2
        rcases hcnt with ⟨rfl, rfl⟩ | rfl
        · have hNI : (0 : Int) < (N : Int) := by omega
          go_wp2_with fail
          go_loopg [7, 8] N (fun kk s7 s8 wx => ∃ s st r : Nat, kk = N - st ∧ s7 = .int .i64 (s : Nat) ∧ s8 = .int .i64 (st : Nat) ∧ st + r = 1 ∧ Chain N b s r N ∧ wx = w2)
          case atStart => exact ⟨1, 0, 1, rfl, rfl, rfl, by omega, HCh.out, rfl⟩
          case round =>
            obtain ⟨s, st, r, hkk, rfl, rfl, hsr, hch, rfl⟩ := hrel
            have HKK : Hid _ := hkk
            clear hkk
            have hcf := hch.facts
            have hstI : (st : Int) < (N : Int) := by omega
            rcases hch.inv with ⟨e, hl, hbe, hr, hne⟩ | ⟨e, r', hl, hbe, hr, hch'⟩
            · have hlf := hl.facts
              have HL : Hid _ := hl
              have ge := HC.out e (by omega)
              rw [hbe] at ge
              have HNE : Hid _ := hne
              have HR : Hid _ := hr
              have q1 : ((e : Int) == (N : Int) - 1) = true := by rw [beq_iff_eq]; omega
              have q2 : (((st : Int) + 1) == (1 : Int)) = true := by rw [beq_iff_eq]; omega
              have q3 : ¬ (e : Int) < (s : Int) := by omega
              have q4 : (e : Int) < (N : Int) := by omega
              clear hl hbe hr hne hch hsr hlf hcf
              go_wp2_with fail
              refine (zzMemberEnd_any wr ⟨g, 0, none⟩ N c' b hN (cells_at HC.out) s e HL.out).mono ?_
              rintro _ w3 ⟨rfl, rfl⟩
              go_wp2_with fail
              go_ret
              exact ⟨rfl, HBel.out⟩
            · have hlf := hl.facts
              have HL : Hid _ := hl
              have HCh' : Hid (Chain N b (e + 1) r' N) := hch'
              have ge := HC.out e (by omega)
              rw [hbe] at ge
              have HR : Hid _ := hr
              have HSR : Hid _ := hsr
              have q3 : ¬ (e : Int) < (s : Int) := by omega
              have q4 : (e : Int) < (N : Int) := by omega
              clear hl hbe hr hch hch' hsr hlf hcf
              go_wp2_with fail
              refine (zzMemberEnd_any wr ⟨g, 0, none⟩ N c' b hN (cells_at HC.out) s e HL.out).mono ?_
              rintro _ w3 ⟨rfl, rfl⟩
              go_wp2_with fail
              go_roundg (N - (st + 1))
              case measure => have := HKK.out; omega
              case rel => exact ⟨e + 1, st + 1, r', by omega, by go_num, by go_num, by have := HR.out; have := HSR.out; omega, HCh'.out, rfl⟩
        · have hz : ((cnt : Int) == 0) = false := by rw [beq_eq_false_iff_ne]; omega
          go_wp2_with fail
          go_loopg [7, 8] N (fun kk s7 s8 wx => ∃ s st r : Nat, kk = N - st ∧ s7 = .int .i64 (s : Nat) ∧ s8 = .int .i64 (st : Nat) ∧ st + r = cnt ∧ Chain N b s r N ∧ wx = w2)
          case atStart => exact ⟨1, 0, cnt, rfl, rfl, rfl, by omega, HCh.out, rfl⟩
          case round =>
            obtain ⟨s, st, r, hkk, rfl, rfl, hsr, hch, rfl⟩ := hrel
            have HKK : Hid _ := hkk
            clear hkk
            have hcf := hch.facts
            have hstI : (st : Int) < (N : Int) := by omega
            rcases hch.inv with ⟨e, hl, hbe, hr, hne⟩ | ⟨e, r', hl, hbe, hr, hch'⟩
            · have hlf := hl.facts
              have HL : Hid _ := hl
              have ge := HC.out e (by omega)
              rw [hbe] at ge
              have HNE : Hid _ := hne
              have HR : Hid _ := hr
              have q1 : ((e : Int) == (N : Int) - 1) = true := by rw [beq_iff_eq]; omega
              have q2 : (((st : Int) + 1) == (cnt : Int)) = true := by rw [beq_iff_eq]; omega
              have q3 : ¬ (e : Int) < (s : Int) := by omega
              have q4 : (e : Int) < (N : Int) := by omega
              clear hl hbe hr hne hch hsr hlf hcf
              go_wp2_with fail
              refine (zzMemberEnd_any wr ⟨g, 0, none⟩ N c' b hN (cells_at HC.out) s e HL.out).mono ?_
              rintro _ w3 ⟨rfl, rfl⟩
              go_wp2_with fail
              go_ret
              exact ⟨rfl, HBel.out⟩
            · have hlf := hl.facts
              have HL : Hid _ := hl
              have HCh' : Hid (Chain N b (e + 1) r' N) := hch'
              have ge := HC.out e (by omega)
              rw [hbe] at ge
              have HR : Hid _ := hr
              have HSR : Hid _ := hsr
              have q3 : ¬ (e : Int) < (s : Int) := by omega
              have q4 : (e : Int) < (N : Int) := by omega
              clear hl hbe hr hch hch' hsr hlf hcf
              go_wp2_with fail
              refine (zzMemberEnd_any wr ⟨g, 0, none⟩ N c' b hN (cells_at HC.out) s e HL.out).mono ?_
              rintro _ w3 ⟨rfl, rfl⟩
              go_wp2_with fail
              go_roundg (N - (st + 1))
              case measure => have := HKK.out; omega
              case rel => exact ⟨e + 1, st + 1, r', by omega, by go_num, by go_num, by have := HR.out; have := HSR.out; omega, HCh'.out, rfl⟩
    · have d0 : decide ((65536 : Int) < (N : Int)) = true := by rw [decide_eq_true_iff]; omega
      go_wp2_with fail
      go_ret
      exact ⟨rfl, Below.refl _ _⟩
end Go.Proofs.Qxb6602813a
