/- FnNewShapeCodesDecodeAlongTree: the nodes' sums. -/
import Derived.Test.Qxb6602643aDcPlain
namespace Go.Proofs.Qxb6602643a
open Go.RowKit
set_option linter.unusedVariables false

theorem add64 (a b : Nat) : IntKind.u64.wrap ((a : Int) + (b : Int)) = (((a + b) % 18446744073709551616 : Nat) : Int) := by
  rw [← Int.natCast_add, wrap_u64_mod]

set_option maxRecDepth 100000 in
set_option maxHeartbeats 4000000 in
theorem dc_tailB {L C : Nat → Nat} {w0 W : World} {cB zb cap : Nat} {ch : Nat → Nat → Int}
    (hbel : Below w0.heap.size w0 W) (hm : ∀ i, i < 256 → L i ≤ 32) (hK : SK L (lonT L 32) = 2 ^ 32) (hC64 : ∀ i, i < 256 → C i < 18446744073709551616)
    (hC : ∀ i, i < 256 → W.cell? ⟨cB, i, none⟩ = some (.int .u64 (C i : Int)))
    (hnd : rowPre W zb 53 (NB L 32 * 9) (ndF (depN L) (stG L C) (lnG L C (lonT L 32) 0) (onG L C (lonT L 32) 0) ch)) (hCH : CH L (lonT L 32) 0 ch)
    {u1 u2 u3 u4 u5 u6 u8 u9 u12 u13 u14 u15 u16 u17 u18 u19 u20 u21 u22 u23 u24 u25 u26 u27 u28 u29 u30 u31 u32 u33 u34 u35 u36 u37 u38 u39 u40 u41 u42 u43 u44 u45 u46 u47 u48 u49 u50 u51 u52 u53 u54 u55 u56 u57 u58 u59 u60 u61 u62 u63 u64 u65 u66 u67 u68 u69 u70 u71 u72 u73 u74 u75 u76 u77 u78 u79 u80 u81 u82 u83 u84 u85 u86 u87 u88 u89 u90 u91 u92 u93 u94 u95 u96 u97 u98 u99 u100 u101 u102 u103 u104 u105 u106 u107 u108 u109 u110 u111 u112 u113 u114 u115 u116 u117 u118 u119 u120 u121 u122 u123 u124 u125 u126 u127 u128 u129 u130 u131 u132 u133 u134 u135 u136 u137 u138 u139 u140 u141 u142 u143 u144 u145 u146 u147 u148 u149 u150 u151 u152 u153 u154 u155 u156 u157 u158 u159 u160 u161 u162 u163 u164 u165 u166 u167 u168 u169 u170 u171 u172 u173 u174 u175 u176 u177 u178 u179 u180 u181 u182 u183 u184 u185 u186 u187 u188 u189 u190 u191 u192 u193 u194 u195 u196 u197 u198 u199 u200 u201 u202 u203 u204 u205 u206 u207 u208 u209 u210 u211 u212 u213 u214 u215 u216 u217 u218 u219 u220 u221 u222 u223 u224 u225 u226 u227 u228 u229 u230 u231 u232 u233 u234 u235 u236 u237 u238 u239 u240 u241 u242 u243 u244 u245 u246 u247 u248 u249 u250 u251 u252 u253 u254 u255 u256 u257 u258 u259 u260 : Value} :
    Code.wp Try.prog (tailC 11 (Try.f7.body.getD .skip)) (bodyPost Try.prog Try.f7 (fun e w' => e = .returned (.bool true) ∧ Below w0.heap.size w0 w')) ⟨#[.pointer (some ⟨cB, 0, none⟩), u1, u2, u3, u4, u5, u6, .slice (some ⟨zb, 0, none⟩) (NB L 32) cap, u8, u9, .int .i64 (lonT L 32 : Nat), .int .u64 (totT L C 256 : Nat), u12, u13, u14, u15, u16, u17, u18, u19, u20, u21, u22, u23, u24, u25, u26, u27, u28, u29, u30, u31, u32, u33, u34, u35, u36, u37, u38, u39, u40, u41, u42, u43, u44, u45, u46, u47, u48, u49, u50, u51, u52, u53, u54, u55, u56, u57, u58, u59, u60, u61, u62, u63, u64, u65, u66, u67, u68, u69, u70, u71, u72, u73, u74, u75, u76, u77, u78, u79, u80, u81, u82, u83, u84, u85, u86, u87, u88, u89, u90, u91, u92, u93, u94, u95, u96, u97, u98, u99, u100, u101, u102, u103, u104, u105, u106, u107, u108, u109, u110, u111, u112, u113, u114, u115, u116, u117, u118, u119, u120, u121, u122, u123, u124, u125, u126, u127, u128, u129, u130, u131, u132, u133, u134, u135, u136, u137, u138, u139, u140, u141, u142, u143, u144, u145, u146, u147, u148, u149, u150, u151, u152, u153, u154, u155, u156, u157, u158, u159, u160, u161, u162, u163, u164, u165, u166, u167, u168, u169, u170, u171, u172, u173, u174, u175, u176, u177, u178, u179, u180, u181, u182, u183, u184, u185, u186, u187, u188, u189, u190, u191, u192, u193, u194, u195, u196, u197, u198, u199, u200, u201, u202, u203, u204, u205, u206, u207, u208, u209, u210, u211, u212, u213, u214, u215, u216, u217, u218, u219, u220, u221, u222, u223, u224, u225, u226, u227, u228, u229, u230, u231, u232, u233, u234, u235, u236, u237, u238, u239, u240, u241, u242, u243, u244, u245, u246, u247, u248, u249, u250, u251, u252, u253, u254, u255, u256, u257, u258, u259, u260], []⟩ W := by
  have hT := nodes_total L hK
  have hn2 : 2 ≤ lonT L 32 := by
    by_cases h : lonT L 32 = 1
    · exfalso
      have h1 := oc_facts L 0 (by omega)
      have e : SK L 1 = 2 ^ (32 - ol L 0) := by rw [SK_succ, SK_zero, Nat.zero_add]
      rw [h, e] at hK
      have := Nat.pow_lt_pow_right (a := 2) (by omega) (show 32 - ol L 0 < 32 from by omega)
      omega
    · omega
  have b32 := lonT_le L 32
  have hroot := root_len L C hm (by omega) (by omega)
  have hlaw := node_law L C ch hCH hK hC64
  have HLAW : Hid _ := hlaw
  have HC : Hid _ := hC
  have bT := NB_le L 32
  have g1 : W.cell? ⟨zb, 0, none⟩ = some (.int .u64 0) := by
    have h := hnd.cell (i := 0) (by omega)
    have e := ndF_at (depN L) (stG L C) (lnG L C (lonT L 32) 0) (onG L C (lonT L 32) 0) ch 0 0 (by omega)
    rw [Nat.zero_mul, Nat.zero_add] at e
    rw [h, e]
    rfl
  have g2 : W.cell? ⟨zb, 1, none⟩ = some (.int .u64 (totT L C 256 : Nat)) := by
    have h := hnd.cell (i := 1) (by omega)
    have e := ndF_at (depN L) (stG L C) (lnG L C (lonT L 32) 0) (onG L C (lonT L 32) 0) ch 0 1 (by omega)
    rw [Nat.zero_mul, Nat.zero_add] at e
    rw [h, e, ← hroot]
    rfl
  have t1 : ((NB L 32 : Int) == 0) = false := by rw [beq_eq_false_iff_ne]; omega
  have t2 : ((NB L 32 : Int) != (lonT L 32 : Int) - 1) = false := by rw [bne_eq_false_iff_eq]; omega
  have t3 : (0 : Int) < (NB L 32 : Int) := by omega
  clear hm hK hC64 hC hCH hroot hlaw hT
  conv => arg 2; whnf
  go_wp2_with fail
  go_loopg [20] (NB L 32) (fun k s20 wx => ∃ j : Nat, k = NB L 32 - j ∧ j ≤ NB L 32 ∧ s20 = .int .i64 j ∧ W = wx)
  case atStart => exact ⟨0, rfl, by omega, rfl, rfl⟩
  case round =>
    obtain ⟨j, hk0, hj, rfl, rfl⟩ := hrel
    have hk : Hid _ := hk0
    clear hk0
    by_cases hlt : j < NB L 32
    · have hltI : (j : Int) < (NB L 32 : Int) := by omega
      have hltD : decide ((j : Int) < (NB L 32 : Int)) = true := by rw [decide_eq_true_eq]; omega
      obtain ⟨P, hP, hln, hon⟩ := HLAW.out j hlt
      have HP : Hid _ := hP
      have c1 : W.cell? ⟨zb, j * 9 + 1, none⟩ = some (.int .u64 (((P 0 + P 1) % 18446744073709551616 : Nat) : Int)) := by rw [hnd.cell (by omega), ndF_at _ _ _ _ _ _ 1 (by omega), ← hln]; rfl
      have c2 : W.cell? ⟨zb, j * 9 + 2, none⟩ = some (.int .u64 (P 1 : Nat)) := by rw [hnd.cell (by omega), ndF_at _ _ _ _ _ _ 2 (by omega), ← hon]; rfl
      have cch : ∀ b, b < 2 → W.cell? ⟨zb, j * 9 + 5 + b, none⟩ = some (.int .i32 (ch j b)) := by
        intro b hb
        match b, hb with
        | 0, _ => rw [hnd.cell (by omega), ndF_at _ _ _ _ _ _ 5 (by omega)]; rfl
        | 1, _ => rw [show j * 9 + 5 + 1 = j * 9 + 6 from by omega, hnd.cell (by omega), ndF_at _ _ _ _ _ _ 6 (by omega)]; rfl
      have CCH : Hid _ := cch
      clear cch hP hln hon
      have p0 := (HP.out 0 (by omega)).1
      have p1 := (HP.out 1 (by omega)).1
      go_wp2_with fail
      go_loopg [21, 22, 23] 2 (fun k s21 s22 s23 wx => ∃ b : Nat, k = 2 - b ∧ b ≤ 2 ∧ s23 = .int .i64 b ∧ s21 = .int .u64 (((if b = 0 then 0 else if b = 1 then P 0 else (P 0 + P 1) % 18446744073709551616) : Nat) : Int) ∧ s22 = .int .u64 (((if b = 2 then P 1 else 0) : Nat) : Int) ∧ W = wx)
      case atStart => exact ⟨0, rfl, by omega, rfl, rfl, rfl, rfl⟩
      case round =>
        obtain ⟨b, hk1, hb, rfl, rfl, rfl, rfl⟩ := hrel
        have hk2 : Hid _ := hk1
        clear hk1
        by_cases hlt2 : b < 2
        · have hlt2I : (b : Int) < 2 := by omega
          have g5 := CCH.out b hlt2
          obtain ⟨pb, hcase⟩ := HP.out b hlt2
          have hsum : ((if b = 0 then 0 else if b = 1 then P 0 else (P 0 + P 1) % 18446744073709551616) : Nat) < 18446744073709551616 := by
            split
            · omega
            · split <;> omega
          have hstep : (((if b = 0 then 0 else if b = 1 then P 0 else (P 0 + P 1) % 18446744073709551616) : Nat) + P b) % 18446744073709551616 = (if b + 1 = 0 then 0 else if b + 1 = 1 then P 0 else (P 0 + P 1) % 18446744073709551616) := by
            match b, hlt2 with
            | 0, _ => simp; omega
            | 1, _ => simp
          have hone : (if b + 1 = 2 then P 1 else 0) = (if b = 1 then P b else if b = 2 then P 1 else 0) := by
            match b, hlt2 with
            | 0, _ => simp
            | 1, _ => simp
          have HST : Hid _ := And.intro hstep hone
          clear hstep hone
          generalize hse : ((if b = 0 then 0 else if b = 1 then P 0 else (P 0 + P 1) % 18446744073709551616) : Nat) = S at *
          generalize hoe : ((if b = 2 then P 1 else 0) : Nat) = O at *
          have HO : Hid _ := hoe
          clear hse hoe
          by_cases hb1 : b = 1
          · have hbb : ((b : Int) == 1) = true := by rw [beq_iff_eq]; omega
            have HB1 : Hid _ := hb1
            clear hb1
            rcases hcase with ⟨j2, hc, hj1, hj2, hl⟩ | ⟨c, hc, hch, hl⟩
            · have g6 : W.cell? ⟨zb, j2 * 9 + 1, none⟩ = some (.int .u64 (P b : Nat)) := by rw [hnd.cell (by omega), ndF_at _ _ _ _ _ _ 1 (by omega), ← hl]; rfl
              rw [hc] at g5
              clear hc hl
              have d1 : (0 : Int) ≤ (j2 : Int) := by omega
              have d2 : ¬ (NB L 32 : Int) ≤ (j2 : Int) := by omega
              have d3 : ¬ (j2 : Int) ≤ (j : Int) := by omega
              have d4 : (j2 : Int) < (NB L 32 : Int) := by omega
              go_wp2_with fail
              go_roundg (2 - (b + 1))
              case measure => have := hk2.out; omega
              case rel =>
                refine ⟨b + 1, rfl, by omega, by go_num, ?_, ?_, rfl⟩
                · rw [add64, HST.out.1]
                · rw [HST.out.2, if_pos HB1.out]
            · have g6 : W.cell? ⟨cB, c, none⟩ = some (.int .u64 (P b : Nat)) := by rw [← hl]; exact HC.out c hc
              rw [hch] at g5
              clear hch hl
              have d1 : ¬ (0 : Int) ≤ -1 - (c : Int) := by omega
              have d2 : ¬ -1 - (c : Int) < -256 := by omega
              have d3 : (-1 : Int) - (-1 - (c : Int)) = (c : Int) := by omega
              go_wp2_with fail
              go_roundg (2 - (b + 1))
              case measure => have := hk2.out; omega
              case rel =>
                refine ⟨b + 1, rfl, by omega, by go_num, ?_, ?_, rfl⟩
                · rw [add64, HST.out.1]
                · rw [HST.out.2, if_pos HB1.out]
          · have hbb : ((b : Int) == 1) = false := by rw [beq_eq_false_iff_ne]; omega
            rcases hcase with ⟨j2, hc, hj1, hj2, hl⟩ | ⟨c, hc, hch, hl⟩
            · have g6 : W.cell? ⟨zb, j2 * 9 + 1, none⟩ = some (.int .u64 (P b : Nat)) := by rw [hnd.cell (by omega), ndF_at _ _ _ _ _ _ 1 (by omega), ← hl]; rfl
              rw [hc] at g5
              clear hc hl
              have d1 : (0 : Int) ≤ (j2 : Int) := by omega
              have d2 : ¬ (NB L 32 : Int) ≤ (j2 : Int) := by omega
              have d3 : ¬ (j2 : Int) ≤ (j : Int) := by omega
              have d4 : (j2 : Int) < (NB L 32 : Int) := by omega
              go_wp2_with fail
              go_roundg (2 - (b + 1))
              case measure => have := hk2.out; omega
              case rel =>
                refine ⟨b + 1, rfl, by omega, by go_num, ?_, ?_, rfl⟩
                · rw [add64, HST.out.1]
                · rw [HST.out.2, if_neg hb1]
            · have g6 : W.cell? ⟨cB, c, none⟩ = some (.int .u64 (P b : Nat)) := by rw [← hl]; exact HC.out c hc
              rw [hch] at g5
              clear hch hl
              have d1 : ¬ (0 : Int) ≤ -1 - (c : Int) := by omega
              have d2 : ¬ -1 - (c : Int) < -256 := by omega
              have d3 : (-1 : Int) - (-1 - (c : Int)) = (c : Int) := by omega
              go_wp2_with fail
              go_roundg (2 - (b + 1))
              case measure => have := hk2.out; omega
              case rel =>
                refine ⟨b + 1, rfl, by omega, by go_num, ?_, ?_, rfl⟩
                · rw [add64, HST.out.1]
                · rw [HST.out.2, if_neg hb1]
        · have hb' : b = 2 := by omega
          subst hb'
          go_wp2_with fail
          go_roundg (NB L 32 - (j + 1))
          case measure => have := hk.out; omega
          case rel => exact ⟨j + 1, rfl, by omega, by go_num, rfl⟩
    · have hltI : ¬ (j : Int) < (NB L 32 : Int) := by omega
      go_wp2_with fail
      go_ret
      exact ⟨rfl, hbel⟩
end Go.Proofs.Qxb6602643a
