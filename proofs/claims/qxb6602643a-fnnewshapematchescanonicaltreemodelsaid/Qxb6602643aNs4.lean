/- newShape's fourth phase: what the nodes gather. -/
import Derived.Test.Qxb6602643aNs5
import Derived.BigRegion
import Derived.WalkSmall
namespace Go.Proofs.Qxb6602643a
open Go.RowKit
set_option linter.unusedVariables false

theorem bit_val (L : Nat → Nat) (i d : Nat) (hi : i < lonT L 32) (hd : d < ol L i) (hK : SK L (lonT L 32) ≤ 2 ^ 32) :
    bits BinOp.and IntKind.u64 ((pr L i (ol L i) : Int) / 2 ^ (ol L i - 1 - d)) 1 = (bitN L i d : Int) := by
  have h32 := (oc_facts L i hi).2.2.1
  have e1 : pr L i (ol L i) / 2 ^ (ol L i - 1 - d) = pr L i (d + 1) := by
    rw [show ol L i - 1 - d = ol L i - (d + 1) from by omega]
    exact pr_shift L i (ol L i) (d + 1) h32 (by omega)
  have e2 := pr_lt L i (d + 1) hK hi (by omega)
  have e3 : 2 ^ (d + 1) ≤ 4294967296 := Nat.le_trans (pow_le (show d + 1 ≤ 32 from by omega)) (Nat.le_of_eq rfl)
  rw [two_pow_cast, ← Int.natCast_ediv, e1]
  unfold bitN
  generalize pr L i (d + 1) = x at *
  rw [and_one_u64 _ (by omega) (by omega)]
  omega

set_option maxRecDepth 100000 in
set_option maxHeartbeats 4000000 in
theorem ns_tail4 {L C : Nat → Nat} {w wr : World} {cb lb g M nb cap : Nat} {F : Nat → Nat} {ch : Nat → Nat → Int}
    (hcb : cb < w.heap.size) (hlb : lb < w.heap.size)
    (hC : ∀ i, i < 256 → w.cell? ⟨cb, i, none⟩ = some (.int .u64 (C i : Int))) (hC64 : ∀ i, i < 256 → C i < 18446744073709551616)
    (hL : ∀ i, i < 256 → w.cell? ⟨lb, i, none⟩ = some (.int .u8 (L i : Int))) (hK : SK L (lonT L 32) ≤ 2 ^ 32)
    (hD0 : NsD L w g M nb cap F (fun _ => 0) (lnG L C 0 0) (onG L C 0 0) ch wr) (hch0 : CH L 0 0 ch)
    {u2 u3 u4 u7 u8 u9 u10 u11 u12 u13 u14 u15 u16 u17 u18 u19 u20 u21 u22 u23 u24 u25 u26 u27 u28 u29 u30 u31 u32 u33 u34 u35 u36 u37 u38 u39 u40 u41 u42 u43 u44 u45 u46 u47 u48 u49 u50 u51 u52 u53 u54 u55 u56 u57 u58 u59 u60 u61 u62 u63 u64 u65 u66 u67 u68 u69 u70 u71 u72 u73 u74 u75 u76 u77 u78 u79 u80 u81 u82 u83 u84 u85 u86 u87 u88 u89 u90 u91 u92 u93 u94 u95 u96 u97 u98 u99 u100 u101 u102 u103 u104 u105 u106 u107 u108 u109 u110 u111 u112 u113 u114 u115 u116 u117 u118 u119 u120 u121 u122 u123 u124 u125 u126 u127 u128 u129 u130 u131 u132 u133 u134 u135 u136 u137 u138 u139 u140 u141 u142 u143 u144 u145 u146 u147 u148 u149 u150 u151 u152 u153 u154 u155 u156 u157 u158 u159 u160 u161 u162 u163 u164 u165 u166 u167 u168 u169 u170 u171 u172 u173 u174 u175 u176 u177 u178 u179 u180 u181 u182 u183 u184 u185 u186 u187 u188 u189 u190 u191 u192 u193 u194 u195 u196 u197 u198 u199 u200 u201 u202 u203 u204 u205 u206 u207 u208 u209 u210 u211 u212 u213 u214 u215 u216 u217 u218 u219 u220 u221 u222 u223 u224 u225 u226 u227 u228 u229 u230 u231 u232 u233 u234 u235 u236 u237 u238 u239 u240 u241 u242 u243 u244 u245 u246 u247 u248 u249 u250 u251 u252 u253 u254 u255 u256 u257 u258 u259 u260 u261 u262 u263 u264 u265 u266 u267 u268 u269 u270 u271 u272 u273 u274 u275 u276 u277 u278 u279 u280 u281 u282 u283 u284 u285 u286 u287 u288 u289 u290 u291 u292 u293 u294 u295 u296 u297 u298 u299 u300 u301 u302 u303 u304 u305 u306 u307 u308 u309 u310 u311 u312 u313 u314 u315 u316 u317 u318 : Value} :
    Code.wp Try.prog (tailC 9 (Try.f23.body.getD .skip)) (bodyPost Try.prog Try.f23 (NsPost L C w)) ⟨#[.pointer (some ⟨cb, 0, none⟩), .pointer (some ⟨lb, 0, none⟩), u2, u3, u4, .pointer (some ⟨w.heap.size, 0, none⟩), .slice (some ⟨g, 0, none⟩) (lonT L 32) (lonT L 32), u7, u8, u9, u10, u11, u12, u13, u14, u15, u16, u17, u18, u19, u20, u21, u22, u23, u24, u25, u26, u27, u28, u29, u30, u31, u32, u33, u34, u35, u36, u37, u38, u39, u40, u41, u42, u43, u44, u45, u46, u47, u48, u49, u50, u51, u52, u53, u54, u55, u56, u57, u58, u59, u60, u61, u62, u63, u64, u65, u66, u67, u68, u69, u70, u71, u72, u73, u74, u75, u76, u77, u78, u79, u80, u81, u82, u83, u84, u85, u86, u87, u88, u89, u90, u91, u92, u93, u94, u95, u96, u97, u98, u99, u100, u101, u102, u103, u104, u105, u106, u107, u108, u109, u110, u111, u112, u113, u114, u115, u116, u117, u118, u119, u120, u121, u122, u123, u124, u125, u126, u127, u128, u129, u130, u131, u132, u133, u134, u135, u136, u137, u138, u139, u140, u141, u142, u143, u144, u145, u146, u147, u148, u149, u150, u151, u152, u153, u154, u155, u156, u157, u158, u159, u160, u161, u162, u163, u164, u165, u166, u167, u168, u169, u170, u171, u172, u173, u174, u175, u176, u177, u178, u179, u180, u181, u182, u183, u184, u185, u186, u187, u188, u189, u190, u191, u192, u193, u194, u195, u196, u197, u198, u199, u200, u201, u202, u203, u204, u205, u206, u207, u208, u209, u210, u211, u212, u213, u214, u215, u216, u217, u218, u219, u220, u221, u222, u223, u224, u225, u226, u227, u228, u229, u230, u231, u232, u233, u234, u235, u236, u237, u238, u239, u240, u241, u242, u243, u244, u245, u246, u247, u248, u249, u250, u251, u252, u253, u254, u255, u256, u257, u258, u259, u260, u261, u262, u263, u264, u265, u266, u267, u268, u269, u270, u271, u272, u273, u274, u275, u276, u277, u278, u279, u280, u281, u282, u283, u284, u285, u286, u287, u288, u289, u290, u291, u292, u293, u294, u295, u296, u297, u298, u299, u300, u301, u302, u303, u304, u305, u306, u307, u308, u309, u310, u311, u312, u313, u314, u315, u316, u317, u318], []⟩ wr := by
  have HC : Hid _ := hC
  have HC64 : Hid _ := hC64
  have HL : Hid _ := hL
  have HK : Hid _ := hK
  clear hC hC64 hL hK
  have bT := NB_le L 32
  have b32 := lonT_le L 32
  conv => arg 2; whnf
  go_wp2_with fail
  go_loopg [185] (lonT L 32) (fun k s185 wx => ∃ i : Nat, k = lonT L 32 - i ∧ i ≤ lonT L 32 ∧ s185 = .int .i64 i ∧
    ∃ ch, NsD L w g M nb cap F (fun _ => 0) (lnG L C i 0) (onG L C i 0) ch wx ∧ CH L i 0 ch)
  case atStart => exact ⟨0, rfl, by omega, rfl, ch, hD0, hch0⟩
  case round =>
    clear hD0 hch0
    obtain ⟨i, hk0, hi, rfl, ch, hD, hCH⟩ := hrel
    have hk : Hid _ := hk0
    clear hk0
    by_cases hlt : i < lonT L 32
    · have hltI : (i : Int) < (lonT L 32 : Int) := by omega
      have hltD : decide ((i : Int) < (lonT L 32 : Int)) = true := by rw [decide_eq_true_eq]; omega
      obtain ⟨a1, a2, a3, a4⟩ := oc_facts L i hlt
      have g1 : wr.cell? ⟨g, i, none⟩ = some (.int .u8 (oc L i : Int)) := hD.B.ord.cell hlt
      have g2 : wr.cell? ⟨lb, oc L i, none⟩ = some (.int .u8 (ol L i : Int)) := by rw [hD.B.bel.cell (p := ⟨lb, oc L i, none⟩) hlb]; exact HL.out _ a1
      have g3 : wr.cell? ⟨w.heap.size, 257 + oc L i, none⟩ = some (.int .u64 (pr L i (ol L i) : Nat)) := by rw [hD.sh.cell (by omega), shF_code, codT_all L i hlt]
      have g4 : wr.cell? ⟨w.heap.size, 1 + oc L i, none⟩ = some (.slice (some ⟨M + 1, offT L i, none⟩) (ol L i) (ol L i)) := by rw [hD.sh.cell (by omega), shF_path _ _ _ _ a1, pthT_all L _ i hlt]
      clear a4
      go_wp2_with fail
      go_quiet (fail)
      go_wp2_with fail
      go_loopg [208] (ol L i) (fun k s208 wx => ∃ d : Nat, k = ol L i - d ∧ d ≤ ol L i ∧ s208 = .int .i64 d ∧
        ∃ ch, NsD L w g M nb cap F (fun _ => 0) (lnG L C i d) (onG L C i d) ch wx ∧ CH L i d ch)
      case atStart => exact ⟨0, rfl, by omega, rfl, ch, hD.drewN _, hCH⟩
      case round =>
        clear hD hCH g1 g2 g3 g4
        obtain ⟨d, hk1, hd, rfl, ch, hD, hCH⟩ := hrel
        have hk2 : Hid _ := hk1
        clear hk1
        by_cases hlt2 : d < ol L i
        · have hlt2I : (d : Int) < (ol L i : Int) := by omega
          have hlt2D : decide ((d : Int) < (ol L i : Int)) = true := by rw [decide_eq_true_eq]; omega
          have hoff := off_lt L i d hlt hlt2
          have hidl := idN_lt L i d hlt hlt2
          have g0 : wr.cell? ⟨w.heap.size, 0, none⟩ = some (.slice (some ⟨nb, 0, none⟩) (NB L 32) cap) := hD.sh.cell (by omega)
          have g5 : wr.cell? ⟨M + 1, offT L i + d, none⟩ = some (.int .i32 (idN L i d : Nat)) := by rw [hD.pb.cell hoff, hD.pi i d hlt hlt2 (.inl (by omega))]
          have g6 : wr.cell? ⟨cb, oc L i, none⟩ = some (.int .u64 (C (oc L i) : Int)) := by rw [hD.B.bel.cell (p := ⟨cb, oc L i, none⟩) hcb]; exact HC.out _ a1
          have hbit : bits BinOp.and IntKind.u64 ((pr L i (ol L i) : Int) / 2 ^ (ol L i - 1 - d)) 1 = (bitN L i d : Int) := bit_val L i d hlt hlt2 HK.out
          have hb2 : bitN L i d < 2 := by unfold bitN; omega
          have hbI : (bitN L i d : Int) < 2 := by omega
          have hkT : (idN L i d : Int) < (NB L 32 : Int) := by omega
          have c64 := HC64.out _ a1
          have l64 : lnG L C i d (idN L i d) < 18446744073709551616 := by unfold lnG; omega
          have o64 : onG L C i d (idN L i d) < 18446744073709551616 := by unfold onG; omega
          -- the length
          have g7 : wr.cell? ⟨nb, idN L i d * 9 + 1, none⟩ = some (.int .u64 (lnG L C i d (idN L i d) : Nat)) := hD.node hidl (j := 1) (by omega)
          have g8 : wr.frozen? ⟨nb, idN L i d * 9 + 1, none⟩ = false := hD.nd.frozen _
          go_wp2_with fail
          go_region
          go_upto_region 43 with fail
          have hD1 := (hD.setNode (idN L i d * 9 + 1) (.int .u64 (IntKind.u64.wrap ((lnG L C i d (idN L i d) : Int) + (C (oc L i) : Int)))) (st' := fun _ => 0) (ln' := lnG L C i (d + 1)) (on' := onG L C i d) (ch' := ch) (fun x => by
            rw [← Int.natCast_add, wrap_u64_mod, nd_ln, ← lnG_step])).drew
          clear hD g0 g5 g6 g7 g8
          generalize (wr.setCell ⟨nb, idN L i d * 9 + 1, none⟩ (.int .u64 (IntKind.u64.wrap ((lnG L C i d (idN L i d) : Int) + (C (oc L i) : Int))))).drew = W1 at *
          -- the set bits
          have g0 := hD1.nodes0
          have g6 : W1.cell? ⟨cb, oc L i, none⟩ = some (.int .u64 (C (oc L i) : Int)) := by rw [hD1.B.bel.cell (p := ⟨cb, oc L i, none⟩) hcb]; exact HC.out _ a1
          have g7 : W1.cell? ⟨nb, idN L i d * 9 + 2, none⟩ = some (.int .u64 (onG L C i d (idN L i d) : Nat)) := hD1.node hidl (j := 2) (by omega)
          have g8 : W1.frozen? ⟨nb, idN L i d * 9 + 2, none⟩ = false := hD1.nd.frozen _
          go_region
          go_upto_region 44 with fail
          have hD2 := (hD1.setNode (idN L i d * 9 + 2) (.int .u64 (IntKind.u64.wrap ((onG L C i d (idN L i d) : Int) + IntKind.u64.wrap ((bitN L i d : Int) * (C (oc L i) : Int))))) (st' := fun _ => 0) (ln' := lnG L C i (d + 1)) (on' := onG L C i (d + 1)) (ch' := ch) (fun x => by
            rw [← Int.natCast_mul, wrap_u64_mod, ← Int.natCast_add, wrap_u64_mod, nd_on, onG_step]
            congr 2
            omega)).drew
          clear hD1 g0 g6 g7 g8
          generalize (W1.setCell ⟨nb, idN L i d * 9 + 2, none⟩ (.int .u64 (IntKind.u64.wrap ((onG L C i d (idN L i d) : Int) + IntKind.u64.wrap ((bitN L i d : Int) * (C (oc L i) : Int)))))).drew = W2 at *
          -- where the bit leads
          have g0 := hD2.nodes0
          have g3 := hD2.path hlt
          have g7 := hD2.child hidl hb2
          have g8 : W2.frozen? ⟨nb, idN L i d * 9 + 5 + bitN L i d, none⟩ = false := hD2.nd.frozen _
          by_cases hlast : d + 1 < ol L i
          · have hlastI : (d : Int) + 1 < (ol L i : Int) := by omega
            have hid2 := idN_lt L i (d + 1) hlt hlast
            have g10 := hD2.pid hlt hlast
            have HT : Hid (tgt L i d = (idN L i (d + 1) : Int)) := by show tgt L i d = _; unfold tgt; rw [if_pos hlast]
            go_wp2_with fail
            go_big_region
            go_wp2_with fail
            go_roundg (ol L i - (d + 1))
            case measure => have := hk2.out; omega
            case rel =>
              refine ⟨d + 1, rfl, by omega, by go_num, updC ch (idN L i d) (bitN L i d) (tgt L i d), ?_, CH_step hCH hlt hlt2⟩
              rw [HT.out]
              exact (hD2.setNode _ _ (fun x => nd_ch _ _ hb2 _ x)).drew
          · have hlastI : ¬ (d : Int) + 1 < (ol L i : Int) := by omega
            have HT : Hid (tgt L i d = -1 - (oc L i : Int)) := by show tgt L i d = _; unfold tgt; rw [if_neg hlast]
            go_wp2_with fail
            go_roundg (ol L i - (d + 1))
            case measure => have := hk2.out; omega
            case rel =>
              refine ⟨d + 1, rfl, by omega, by go_num, updC ch (idN L i d) (bitN L i d) (tgt L i d), ?_, CH_step hCH hlt hlt2⟩
              rw [HT.out]
              exact hD2.setNode _ _ (fun x => nd_ch _ _ hb2 _ x)
        · have hd' : d = ol L i := by omega
          have hlt2I : ¬ (d : Int) < (ol L i : Int) := by omega
          go_wp2_with fail
          go_roundg (lonT L 32 - (i + 1))
          case measure => have := hk.out; omega
          case rel =>
            rw [hd', lnG_row, onG_row] at hD
            rw [hd'] at hCH
            exact ⟨i + 1, rfl, by omega, by go_num, ch, hD, CH_row hCH⟩
    · have hi' : i = lonT L 32 := by omega
      have hltI : ¬ (i : Int) < (lonT L 32 : Int) := by omega
      rw [hi'] at hD hCH
      have HD : Hid _ := And.intro hD hCH
      clear hD hCH hi'
      go_upto_if 186 with fail
      go_step
      go_step
      go_step
      go_step
      refine ns_tail5 HD.out.1 HD.out.2
end Go.Proofs.Qxb6602643a
