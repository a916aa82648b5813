/- FnNewShapeCodesDecodeAlongTree: the codes, decoded along the tree. -/
import Derived.Test.Qxb6602643aDcB
import Derived.Test.Qxb6602643aNs4
import Derived.Test.Qxb6602643aNsKit4
namespace Go.Proofs.Qxb6602643a
open Go.RowKit
set_option linter.unusedVariables false

theorem codT_c (L : Nat → Nat) (hm : ∀ i, i < 256 → L i ≤ 32) (c : Nat) (hc : c < 256) (h1 : 1 ≤ L c) : posT L c < lonT L 32 ∧ oc L (posT L c) = c ∧ ol L (posT L c) = L c ∧ codT L (lonT L 32) c = pr L (posT L c) (L c) := by
  have hp := posT_lt L 32 c hc h1 (hm c hc)
  have ho := oc_posT L c hc h1 (hm c hc)
  refine ⟨hp, ho, by unfold ol; rw [ho], ?_⟩
  unfold codT
  rw [if_pos ⟨h1, hp⟩]

set_option maxRecDepth 100000 in
set_option maxHeartbeats 4000000 in
theorem dc_tailA {L C : Nat → Nat} {w0 W : World} {cB lB zb cap b8 b9 PB : Nat} {F : Nat → Nat} {ch : Nat → Nat → Int}
    (hbel : Below w0.heap.size w0 W) (hm : ∀ i, i < 256 → L i ≤ 32) (hK : SK L (lonT L 32) = 2 ^ 32) (hC64 : ∀ i, i < 256 → C i < 18446744073709551616)
    (hC : ∀ i, i < 256 → W.cell? ⟨cB, i, none⟩ = some (.int .u64 (C i : Int))) (hL : ∀ i, i < 256 → W.cell? ⟨lB, i, none⟩ = some (.int .u8 (L i : Int)))
    (h8 : W.rowIs b8 41 256 (pthT L PB (lonT L 32))) (h9 : W.rowIs b9 38 256 (fun c => .int .u64 (codT L (lonT L 32) c : Nat)))
    (hPB : W.rowIs PB 21 (offT L (lonT L 32)) (fun x => .int .i32 (F x : Nat))) (hPI : PI L 32 0 F)
    (hnd : rowPre W zb 53 (NB L 32 * 9) (ndF (depN L) (stG L C) (lnG L C (lonT L 32) 0) (onG L C (lonT L 32) 0) ch)) (hCH : CH L (lonT L 32) 0 ch)
    {u2 u3 u4 u5 u6 u10 u11 u12 u13 u14 u15 u16 u17 u18 u19 u20 u21 u22 u23 u24 u25 u26 u27 u28 u29 u30 u31 u32 u33 u34 u35 u36 u37 u38 u39 u40 u41 u42 u43 u44 u45 u46 u47 u48 u49 u50 u51 u52 u53 u54 u55 u56 u57 u58 u59 u60 u61 u62 u63 u64 u65 u66 u67 u68 u69 u70 u71 u72 u73 u74 u75 u76 u77 u78 u79 u80 u81 u82 u83 u84 u85 u86 u87 u88 u89 u90 u91 u92 u93 u94 u95 u96 u97 u98 u99 u100 u101 u102 u103 u104 u105 u106 u107 u108 u109 u110 u111 u112 u113 u114 u115 u116 u117 u118 u119 u120 u121 u122 u123 u124 u125 u126 u127 u128 u129 u130 u131 u132 u133 u134 u135 u136 u137 u138 u139 u140 u141 u142 u143 u144 u145 u146 u147 u148 u149 u150 u151 u152 u153 u154 u155 u156 u157 u158 u159 u160 u161 u162 u163 u164 u165 u166 u167 u168 u169 u170 u171 u172 u173 u174 u175 u176 u177 u178 u179 u180 u181 u182 u183 u184 u185 u186 u187 u188 u189 u190 u191 u192 u193 u194 u195 u196 u197 u198 u199 u200 u201 u202 u203 u204 u205 u206 u207 u208 u209 u210 u211 u212 u213 u214 u215 u216 u217 u218 u219 u220 u221 u222 u223 u224 u225 u226 u227 u228 u229 u230 u231 u232 u233 u234 u235 u236 u237 u238 u239 u240 u241 u242 u243 u244 u245 u246 u247 u248 u249 u250 u251 u252 u253 u254 u255 u256 u257 u258 u259 u260 : Value} :
    Code.wp Try.prog (tailC 8 (Try.f7.body.getD .skip)) (bodyPost Try.prog Try.f7 (fun e w' => e = .returned (.bool true) ∧ Below w0.heap.size w0 w')) ⟨#[.pointer (some ⟨cB, 0, none⟩), .pointer (some ⟨lB, 0, none⟩), u2, u3, u4, u5, u6, .slice (some ⟨zb, 0, none⟩) (NB L 32) cap, .pointer (some ⟨b8, 0, none⟩), .pointer (some ⟨b9, 0, none⟩), u10, u11, u12, u13, u14, u15, u16, u17, u18, u19, u20, u21, u22, u23, u24, u25, u26, u27, u28, u29, u30, u31, u32, u33, u34, u35, u36, u37, u38, u39, u40, u41, u42, u43, u44, u45, u46, u47, u48, u49, u50, u51, u52, u53, u54, u55, u56, u57, u58, u59, u60, u61, u62, u63, u64, u65, u66, u67, u68, u69, u70, u71, u72, u73, u74, u75, u76, u77, u78, u79, u80, u81, u82, u83, u84, u85, u86, u87, u88, u89, u90, u91, u92, u93, u94, u95, u96, u97, u98, u99, u100, u101, u102, u103, u104, u105, u106, u107, u108, u109, u110, u111, u112, u113, u114, u115, u116, u117, u118, u119, u120, u121, u122, u123, u124, u125, u126, u127, u128, u129, u130, u131, u132, u133, u134, u135, u136, u137, u138, u139, u140, u141, u142, u143, u144, u145, u146, u147, u148, u149, u150, u151, u152, u153, u154, u155, u156, u157, u158, u159, u160, u161, u162, u163, u164, u165, u166, u167, u168, u169, u170, u171, u172, u173, u174, u175, u176, u177, u178, u179, u180, u181, u182, u183, u184, u185, u186, u187, u188, u189, u190, u191, u192, u193, u194, u195, u196, u197, u198, u199, u200, u201, u202, u203, u204, u205, u206, u207, u208, u209, u210, u211, u212, u213, u214, u215, u216, u217, u218, u219, u220, u221, u222, u223, u224, u225, u226, u227, u228, u229, u230, u231, u232, u233, u234, u235, u236, u237, u238, u239, u240, u241, u242, u243, u244, u245, u246, u247, u248, u249, u250, u251, u252, u253, u254, u255, u256, u257, u258, u259, u260], []⟩ W := by
  have bT := NB_le L 32
  have b32 := lonT_le L 32
  have HC : Hid _ := hC
  have HC64 : Hid _ := hC64
  have HL : Hid _ := hL
  have HB : Hid _ := hm
  have HK : Hid _ := hK
  have HPI : Hid _ := hPI
  have HCH : Hid _ := hCH
  clear hC hC64 hL hm hK hPI hCH
  conv => arg 2; whnf
  go_wp2_with fail
  go_loopg [10, 11, 12] 256 (fun k s10 s11 s12 wx => ∃ c : Nat, k = 256 - c ∧ c ≤ 256 ∧ s12 = .int .i64 c ∧ s10 = .int .i64 (cleTo L 32 c : Nat) ∧ s11 = .int .u64 (totT L C c : Nat) ∧ ∃ n, wx = W.drewN n)
  case atStart => exact ⟨0, rfl, by omega, rfl, rfl, rfl, 0, rfl⟩
  case round =>
    obtain ⟨c, hk0, hc, rfl, rfl, rfl, n, rfl⟩ := hrel
    have hk : Hid _ := hk0
    clear hk0
    have hcl := cleTo_le L 32 c
    have htot : totT L C c < 18446744073709551616 := by unfold totT; omega
    by_cases hlt : c < 256
    · have hltI : (c : Int) < 256 := by omega
      have hltD : decide ((c : Int) < 256) = true := by rw [decide_eq_true_eq]; omega
      have g1 := HL.out c hlt
      have hl32 := HB.out c hlt
      by_cases hz : 1 ≤ L c
      · have hzb : ((L c : Int) == 0) = false := by rw [beq_eq_false_iff_ne]; omega
        obtain ⟨hq, hoc, hol, hcod⟩ := codT_c L HB.out c hlt hz
        have g2 := HC.out c hlt
        have g3 : W.cell? ⟨b9, c, none⟩ = some (.int .u64 (pr L (posT L c) (L c) : Nat)) := by rw [h9.cell hlt, hcod]
        have g4 : W.cell? ⟨b8, c, none⟩ = some (.slice (some ⟨PB, offT L (posT L c), none⟩) (L c) (L c)) := by rw [h8.cell hlt]; unfold pthT; rw [if_pos ⟨hz, hq⟩]
        have hplt := pr_lt L (posT L c) (L c) (Nat.le_of_eq HK.out) hq hl32
        have hp32 : 2 ^ L c ≤ 4294967296 := Nat.le_trans (pow_le hl32) (Nat.le_of_eq rfl)
        have hsh0 : (pr L (posT L c) (L c) : Int) / 2 ^ L c = 0 := by rw [two_pow_cast, ← Int.natCast_ediv, Nat.div_eq_of_lt hplt]; rfl
        have c64 := HC64.out c hlt
        have Hq : Hid _ := And.intro hoc hol
        clear hoc hol hcod
        go_wp2_with fail
        go_loopg [14] 256 (fun k s14 wx => ∃ e : Nat, k = 256 - e ∧ e ≤ 256 ∧ s14 = .int .i64 e ∧ ∃ n, wx = W.drewN n)
        case atStart => exact ⟨0, rfl, by omega, rfl, _, rfl⟩
        case round =>
          obtain ⟨e, hk1, he, rfl, n, rfl⟩ := hrel
          have hk2 : Hid _ := hk1
          clear hk1
          by_cases hlt2 : e < 256
          · have hlt2I : (e : Int) < 256 := by omega
            have g5 := HL.out e hlt2
            have hle32 := HB.out e hlt2
            by_cases hec : e = c
            · have t1 : ((e : Int) != (c : Int)) = false := by rw [bne_eq_false_iff_eq]; omega
              have hec' : Hid _ := hec
              clear hec
              go_wp2_with fail
              go_quiet (fail)
              go_wp2_with fail
              go_roundg (256 - (e + 1))
              case measure => have := hk2.out; omega
              case rel => exact ⟨e + 1, rfl, by omega, by go_num, _, rfl⟩
            · have t1 : ((e : Int) != (c : Int)) = true := by rw [bne_iff_ne]; omega
              by_cases hll : L c ≤ L e
              · have t2 : decide ((L c : Int) ≤ (L e : Int)) = true := by rw [decide_eq_true_eq]; omega
                have t2' : (L c : Int) ≤ (L e : Int) := by omega
                obtain ⟨hr, hoe, hole, hcode⟩ := codT_c L HB.out e hlt2 (by omega)
                have g6 : W.cell? ⟨b9, e, none⟩ = some (.int .u64 (pr L (posT L e) (L e) : Nat)) := by rw [h9.cell hlt2, hcode]
                have hpe := pr_lt L (posT L e) (L e) (Nat.le_of_eq HK.out) hr hle32
                have hpe32 : 2 ^ L e ≤ 4294967296 := Nat.le_trans (pow_le hle32) (Nat.le_of_eq rfl)
                have hshr : (pr L (posT L e) (L e) : Int) / 2 ^ (L e - L c) = (pr L (posT L e) (L c) : Int) := by rw [two_pow_cast, ← Int.natCast_ediv, pr_shift L _ (L e) (L c) hle32 hll]
                have hne : pr L (posT L e) (L c) ≠ pr L (posT L c) (L c) := by
                  have := pr_ne L (posT L c) (posT L e) hq hr (fun x => hec (by rw [← hoe, ← x, Hq.out.1])) (by rw [hole, Hq.out.2]; exact hll)
                  rwa [Hq.out.2] at this
                have t3 : ((pr L (posT L e) (L c) : Int) == (pr L (posT L c) (L c) : Int)) = false := by rw [beq_eq_false_iff_ne]; omega
                clear hcode hoe hole hne
                go_wp2_with fail
                go_quiet (fail)
                go_wp2_with fail
                go_roundg (256 - (e + 1))
                case measure => have := hk2.out; omega
                case rel => exact ⟨e + 1, rfl, by omega, by go_num, _, rfl⟩
              · have t2 : decide ((L c : Int) ≤ (L e : Int)) = false := by rw [decide_eq_false_iff_not]; omega
                go_wp2_with fail
                go_quiet (fail)
                go_wp2_with fail
                go_roundg (256 - (e + 1))
                case measure => have := hk2.out; omega
                case rel => exact ⟨e + 1, rfl, by omega, by go_num, _, rfl⟩
          · have hlt2I : ¬ (e : Int) < 256 := by omega
            go_wp2_with fail
            go_loopg [16, 17] (L c) (fun k s16 s17 wx => ∃ i kk : Nat, k = L c - i ∧ i ≤ L c ∧ s17 = .int .i64 i ∧ s16 = .int .i64 kk ∧ (i < L c → kk = idN L (posT L c) i) ∧ ∃ n, wx = W.drewN n)
            case atStart => exact ⟨0, 0, rfl, by omega, rfl, rfl, fun _ => (idN_root L (Nat.le_of_eq HK.out) _ hq).symm, _, rfl⟩
            case round =>
              clear hk2
              obtain ⟨i, kk, hk3, hi, rfl, rfl, hkk, n, rfl⟩ := hrel
              have hk4 : Hid _ := hk3
              clear hk3
              by_cases hlt3 : i < L c
              · have hlt3I : (i : Int) < (L c : Int) := by omega
                have hil : i < ol L (posT L c) := by rw [Hq.out.2]; exact hlt3
                obtain rfl := hkk hlt3
                clear hkk
                have hidT := idN_lt L _ i hq hil
                have d1 : ¬ (idN L (posT L c) i : Int) < 0 := by omega
                have d2 : ¬ (NB L 32 : Int) ≤ (idN L (posT L c) i : Int) := by omega
                have d3 : (idN L (posT L c) i : Int) < (NB L 32 : Int) := by omega
                have g6 : W.cell? ⟨PB, offT L (posT L c) + i, none⟩ = some (.int .i32 (idN L (posT L c) i : Nat)) := by rw [hPB.cell (off_lt L _ i hq hil), HPI.out _ i hq hil (.inl (by omega))]
                have g7 : W.cell? ⟨zb, idN L (posT L c) i * 9 + 4, none⟩ = some (.int .i64 (i : Nat)) := by rw [hnd.cell (by omega), ndF_at _ _ _ _ _ _ 4 (by omega), depN_id L _ i hq hil]; rfl
                have hb2 : bitN L (posT L c) i < 2 := by unfold bitN; omega
                have hb2I : (bitN L (posT L c) i : Int) < 2 := by omega
                have hbit : bits BinOp.and IntKind.u64 ((pr L (posT L c) (L c) : Int) / 2 ^ (L c - 1 - i)) 1 = (bitN L (posT L c) i : Int) := by
                  have := bit_val L (posT L c) i hq hil (Nat.le_of_eq HK.out)
                  rwa [Hq.out.2] at this
                have g8 : W.cell? ⟨zb, idN L (posT L c) i * 9 + 5 + bitN L (posT L c) i, none⟩ = some (.int .i32 (tgt L (posT L c) i)) := by
                  rw [← HCH.out.1 _ i hq hil (.inl hq)]
                  have hb := hb2
                  generalize bitN L (posT L c) i = b at *
                  match b, hb with
                  | 0, _ => rw [hnd.cell (by omega), ndF_at _ _ _ _ _ _ 5 (by omega)]; rfl
                  | 1, _ => rw [show idN L (posT L c) i * 9 + 5 + 1 = idN L (posT L c) i * 9 + 6 from by omega, hnd.cell (by omega), ndF_at _ _ _ _ _ _ 6 (by omega)]; rfl
                by_cases hlast : i + 1 < L c
                · have hlastI : (i : Int) + 1 < (L c : Int) := by omega
                  have htg : tgt L (posT L c) i = (idN L (posT L c) (i + 1) : Int) := by unfold tgt; rw [if_pos (by rw [Hq.out.2]; exact hlast)]
                  have hid2 := idN_lt L _ (i + 1) hq (by rw [Hq.out.2]; exact hlast)
                  rw [htg] at g8
                  clear htg
                  go_wp2_with fail
                  go_roundg (L c - (i + 1))
                  case measure => have := hk4.out; omega
                  case rel => exact ⟨i + 1, _, rfl, by omega, by go_num, rfl, fun _ => rfl, _, rfl⟩
                · have hlastI : ¬ (i : Int) + 1 < (L c : Int) := by omega
                  have htg : tgt L (posT L c) i = -1 - (c : Int) := by unfold tgt; rw [if_neg (by rw [Hq.out.2]; exact hlast), Hq.out.1]
                  rw [htg] at g8
                  clear htg
                  go_wp2_with fail
                  go_roundg (L c - (i + 1))
                  case measure => have := hk4.out; omega
                  case rel => exact ⟨i + 1, _, rfl, by omega, by go_num, rfl, fun h => absurd h hlast, _, rfl⟩
              · have hlt3I : ¬ (i : Int) < (L c : Int) := by omega
                clear hkk
                go_wp2_with fail
                go_roundg (256 - (c + 1))
                case measure => have := hk.out; omega
                case rel => exact ⟨c + 1, rfl, by omega, by go_num, by rw [cle_yes L c hz hl32]; rfl, by rw [add64, totT_yes L C c hz], n, rfl⟩
      · have hzb : ((L c : Int) == 0) = true := by rw [beq_iff_eq]; omega
        go_wp2_with fail
        go_roundg (256 - (c + 1))
        case measure => have := hk.out; omega
        case rel => exact ⟨c + 1, rfl, by omega, by go_num, by rw [cle_no L c hz], by rw [totT_no L C c hz], n, rfl⟩
    · have hltI : ¬ (c : Int) < 256 := by omega
      have hc' : c = 256 := by omega
      subst hc'
      rw [cle_all] at *
      go_upto_if 49 with fail
      go_step
      go_step
      go_step
      go_step
      exact dc_tailB (below_drewN hbel n) HB.out HK.out HC64.out HC.out (hnd.drewN n) HCH.out
end Go.Proofs.Qxb6602643a
