/- kraftB1, prefixCodeB1, completeCodeB1, walked. -/
import Derived.Test.Qxb6602643aRows
import Derived.Test.Qxb6602643aNsNodes
import Derived.Test.Qxb6602643aKit
namespace Go.Proofs.Qxb6602643a
open Go.RowKit
set_option linter.unusedVariables false

def KR (L : Nat → Nat) (j : Nat) : Nat := sumF (fun c => if 1 ≤ L c then 2 ^ (32 - L c) else 0) j
theorem pow31 (k : Nat) (h : k ≤ 31) : 2 ^ k ≤ 2147483648 := Nat.le_trans (pow_le h) (Nat.le_of_eq rfl)
theorem KR_succ (L : Nat → Nat) (j : Nat) : KR L (j + 1) = KR L j + if 1 ≤ L j then 2 ^ (32 - L j) else 0 := rfl
theorem KR_le (L : Nat → Nat) (j : Nat) : KR L j ≤ j * 2147483648 := by
  induction j with
  | zero => exact Nat.zero_le _
  | succ j ih =>
    rw [KR_succ, Nat.add_mul, Nat.one_mul]
    refine Nat.add_le_add ih ?_
    split
    · exact pow31 _ (by omega)
    · exact Nat.zero_le _

set_option maxRecDepth 100000 in
set_option maxHeartbeats 400000 in
theorem kraft_any (w : World) (pb po : Nat) (L : Nat → Nat) (hL : ∀ i, i < 256 → w.cell? ⟨pb, po + i, none⟩ = some (.int .u8 (L i : Int))) (hm : ∀ i, i < 256 → L i ≤ 255) :
    Calls Try.prog 22 #[.pointer (some ⟨pb, po, none⟩)] w fun e w' => w = w' ∧
      ((e = .returned (.tuple #[.int .u64 0, .bool false]) ∧ ∃ c, c < 256 ∧ 32 < L c) ∨ (e = .returned (.tuple #[.int .u64 (KR L 256 : Int), .bool true]) ∧ ∀ c, c < 256 → L c ≤ 32)) := by
  have HL : Hid _ := hL
  have HM : Hid _ := hm
  clear hL hm
  go_enter Try.func22, Try.ntmps22
  go_wp2
  go_loopg [4, 5] 256 (fun k s i wr => ∃ j : Nat, k = 256 - j ∧ j ≤ 256 ∧ i = .int .i64 j ∧ s = .int .u64 (KR L j : Int) ∧ w = wr ∧ ∀ i, i < j → L i ≤ 32)
  case atStart => exact ⟨0, rfl, by omega, rfl, rfl, rfl, fun i h => by omega⟩
  case round =>
    obtain ⟨j, hk0, hj, rfl, rfl, rfl, hm0⟩ := hrel
    have hk : Hid _ := hk0
    have HB : Hid _ := hm0
    have hkr := KR_le L j
    clear hk0 hm0
    by_cases hlt : j < 256
    · have g1 : w.cell? ⟨pb, po + j, none⟩ = some (.int .u8 (L j : Int)) := HL.out j hlt
      have h255 := HM.out j hlt
      by_cases hbig : 32 < L j
      · have hbig' : (32 : Int) < (L j : Int) := by omega
        go_wp2
        go_ret2
        exact ⟨rfl, .inl ⟨rfl, j, hlt, hbig⟩⟩
      · have hbig' : ¬ (32 : Int) < (L j : Int) := by omega
        by_cases hz : 0 < L j
        · have hz' : (0 : Int) < (L j : Int) := by omega
          go_wp2
          go_roundg (256 - (j + 1))
          case measure => have := hk.out; omega
          case rel =>
            refine ⟨j + 1, rfl, by omega, by go_num, ?_, rfl, ?_⟩
            · have e1 : KR L (j + 1) = KR L j + if 1 ≤ L j then 2 ^ (32 - L j) else 0 := rfl
              have e2 := pow31 (32 - L j) (by omega)
              rw [e1, if_pos (by omega), two_pow_cast, wrap_u64_nat _ (by omega), ← Int.natCast_add, wrap_u64_nat _ (by omega)]
            · intro i hi
              by_cases e : i = j
              · subst e; omega
              · exact HB.out i (by omega)
        · have hz' : ¬ (0 : Int) < (L j : Int) := by omega
          go_wp2
          go_roundg (256 - (j + 1))
          case measure => have := hk.out; omega
          case rel =>
            refine ⟨j + 1, rfl, by omega, by go_num, ?_, rfl, ?_⟩
            · have : KR L (j + 1) = KR L j + if 1 ≤ L j then 2 ^ (32 - L j) else 0 := rfl
              rw [this, if_neg (by omega)]; rfl
            · intro i hi
              by_cases e : i = j
              · subst e; omega
              · exact HB.out i (by omega)
    · have hj256 : j = 256 := by omega
      subst hj256
      go_wp2
      go_ret2
      exact ⟨rfl, .inr ⟨rfl, HB.out⟩⟩

theorem prefix_any (w : World) (pb po : Nat) (L : Nat → Nat) (hL : ∀ i, i < 256 → w.cell? ⟨pb, po + i, none⟩ = some (.int .u8 (L i : Int))) (hm : ∀ i, i < 256 → L i ≤ 255) :
    Calls Try.prog 14 #[.pointer (some ⟨pb, po, none⟩)] w fun e w' => w = w' ∧ (e = .returned (.bool false) ∨ (e = .returned (.bool true) ∧ (∀ c, c < 256 → L c ≤ 32) ∧ KR L 256 ≤ 4294967296)) := by
  have HL : Hid _ := hL
  have HM : Hid _ := hm
  clear hL hm
  go_enter Try.func14, Try.ntmps14
  go_wp2_with fail
  refine (kraft_any w pb po L HL.out HM.out).mono ?_
  rintro e w1 ⟨rfl, ⟨rfl, _⟩ | ⟨rfl, hb⟩⟩
  · go_wp2_with fail
    go_ret
    exact ⟨rfl, .inl rfl⟩
  · have HB : Hid _ := hb
    clear hb
    by_cases hK : KR L 256 ≤ 4294967296
    · have hK' : decide ((KR L 256 : Int) ≤ 4294967296) = true := by rw [decide_eq_true_eq]; omega
      go_wp2_with fail
      go_ret
      exact ⟨rfl, .inr ⟨rfl, HB.out, hK⟩⟩
    · have hK' : decide ((KR L 256 : Int) ≤ 4294967296) = false := by rw [decide_eq_false_iff_not]; omega
      go_wp2_with fail
      go_ret
      exact ⟨rfl, .inl rfl⟩

theorem complete_any (w : World) (pb po : Nat) (L : Nat → Nat) (hL : ∀ i, i < 256 → w.cell? ⟨pb, po + i, none⟩ = some (.int .u8 (L i : Int))) (hm : ∀ i, i < 256 → L i ≤ 255) :
    Calls Try.prog 19 #[.pointer (some ⟨pb, po, none⟩)] w fun e w' => w = w' ∧ (e = .returned (.bool false) ∨ (e = .returned (.bool true) ∧ (∀ c, c < 256 → L c ≤ 32) ∧ KR L 256 = 4294967296)) := by
  have HL : Hid _ := hL
  have HM : Hid _ := hm
  clear hL hm
  go_enter Try.func19, Try.ntmps19
  go_wp2_with fail
  refine (kraft_any w pb po L HL.out HM.out).mono ?_
  rintro e w1 ⟨rfl, ⟨rfl, _⟩ | ⟨rfl, hb⟩⟩
  · go_wp2_with fail
    go_ret
    exact ⟨rfl, .inl rfl⟩
  · have HB : Hid _ := hb
    clear hb
    by_cases hK : KR L 256 = 4294967296
    · have hK' : ((KR L 256 : Int) == 4294967296) = true := by rw [beq_iff_eq]; omega
      have HK : Hid _ := hK
      clear hK
      go_wp2_with fail
      go_ret
      exact ⟨rfl, .inr ⟨rfl, HB.out, HK.out⟩⟩
    · have hK' : ((KR L 256 : Int) == 4294967296) = false := by rw [beq_eq_false_iff_ne]; omega
      go_wp2_with fail
      go_ret
      exact ⟨rfl, .inl rfl⟩

/-- the Kraft sum over the values is the one over the order -/
theorem KR_SK (L : Nat → Nat) (hL : ∀ c, c < 256 → L c ≤ 32) : SK L (lonT L 32) = KR L 256 := by
  have h := sumF_oc L hL (fun c => 2 ^ (32 - L c))
  exact h
end Go.Proofs.Qxb6602643a
