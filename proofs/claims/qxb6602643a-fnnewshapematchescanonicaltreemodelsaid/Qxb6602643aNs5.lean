/- newShape's fifth phase: the starts. -/
import Derived.Test.Qxb6602643aNsKit3
namespace Go.Proofs.Qxb6602643a
open Go.RowKit
set_option linter.unusedVariables false

set_option maxRecDepth 100000 in
set_option maxHeartbeats 4000000 in
theorem ns_tail5 {L C : Nat → Nat} {w wr : World} {g M nb cap : Nat} {F : Nat → Nat} {ch : Nat → Nat → Int}
    (hD0 : NsD L w g M nb cap F (fun _ => 0) (lnG L C (lonT L 32) 0) (onG L C (lonT L 32) 0) ch wr) (hch0 : CH L (lonT L 32) 0 ch)
    {u0 u1 u2 u3 u4 u6 u7 u8 u9 u10 u11 u12 u13 u14 u15 u16 u17 u18 u19 u20 u21 u22 u23 u24 u25 u26 u27 u28 u29 u30 u31 u32 u33 u34 u35 u36 u37 u38 u39 u40 u41 u42 u43 u44 u45 u46 u47 u48 u49 u50 u51 u52 u53 u54 u55 u56 u57 u58 u59 u60 u61 u62 u63 u64 u65 u66 u67 u68 u69 u70 u71 u72 u73 u74 u75 u76 u77 u78 u79 u80 u81 u82 u83 u84 u85 u86 u87 u88 u89 u90 u91 u92 u93 u94 u95 u96 u97 u98 u99 u100 u101 u102 u103 u104 u105 u106 u107 u108 u109 u110 u111 u112 u113 u114 u115 u116 u117 u118 u119 u120 u121 u122 u123 u124 u125 u126 u127 u128 u129 u130 u131 u132 u133 u134 u135 u136 u137 u138 u139 u140 u141 u142 u143 u144 u145 u146 u147 u148 u149 u150 u151 u152 u153 u154 u155 u156 u157 u158 u159 u160 u161 u162 u163 u164 u165 u166 u167 u168 u169 u170 u171 u172 u173 u174 u175 u176 u177 u178 u179 u180 u181 u182 u183 u184 u185 u186 u187 u188 u189 u190 u191 u192 u193 u194 u195 u196 u197 u198 u199 u200 u201 u202 u203 u204 u205 u206 u207 u208 u209 u210 u211 u212 u213 u214 u215 u216 u217 u218 u219 u220 u221 u222 u223 u224 u225 u226 u227 u228 u229 u230 u231 u232 u233 u234 u235 u236 u237 u238 u239 u240 u241 u242 u243 u244 u245 u246 u247 u248 u249 u250 u251 u252 u253 u254 u255 u256 u257 u258 u259 u260 u261 u262 u263 u264 u265 u266 u267 u268 u269 u270 u271 u272 u273 u274 u275 u276 u277 u278 u279 u280 u281 u282 u283 u284 u285 u286 u287 u288 u289 u290 u291 u292 u293 u294 u295 u296 u297 u298 u299 u300 u301 u302 u303 u304 u305 u306 u307 u308 u309 u310 u311 u312 u313 u314 u315 u316 u317 u318 : Value} :
    Code.wp Try.prog (tailC 10 (Try.f23.body.getD .skip)) (bodyPost Try.prog Try.f23 (NsPost L C w)) ⟨#[u0, u1, u2, u3, u4, .pointer (some ⟨w.heap.size, 0, none⟩), u6, u7, u8, u9, u10, u11, u12, u13, u14, u15, u16, u17, u18, u19, u20, u21, u22, u23, u24, u25, u26, u27, u28, u29, u30, u31, u32, u33, u34, u35, u36, u37, u38, u39, u40, u41, u42, u43, u44, u45, u46, u47, u48, u49, u50, u51, u52, u53, u54, u55, u56, u57, u58, u59, u60, u61, u62, u63, u64, u65, u66, u67, u68, u69, u70, u71, u72, u73, u74, u75, u76, u77, u78, u79, u80, u81, u82, u83, u84, u85, u86, u87, u88, u89, u90, u91, u92, u93, u94, u95, u96, u97, u98, u99, u100, u101, u102, u103, u104, u105, u106, u107, u108, u109, u110, u111, u112, u113, u114, u115, u116, u117, u118, u119, u120, u121, u122, u123, u124, u125, u126, u127, u128, u129, u130, u131, u132, u133, u134, u135, u136, u137, u138, u139, u140, u141, u142, u143, u144, u145, u146, u147, u148, u149, u150, u151, u152, u153, u154, u155, u156, u157, u158, u159, u160, u161, u162, u163, u164, u165, u166, u167, u168, u169, u170, u171, u172, u173, u174, u175, u176, u177, u178, u179, u180, u181, u182, u183, u184, u185, u186, u187, u188, u189, u190, u191, u192, u193, u194, u195, u196, u197, u198, u199, u200, u201, u202, u203, u204, u205, u206, u207, u208, u209, u210, u211, u212, u213, u214, u215, u216, u217, u218, u219, u220, u221, u222, u223, u224, u225, u226, u227, u228, u229, u230, u231, u232, u233, u234, u235, u236, u237, u238, u239, u240, u241, u242, u243, u244, u245, u246, u247, u248, u249, u250, u251, u252, u253, u254, u255, u256, u257, u258, u259, u260, u261, u262, u263, u264, u265, u266, u267, u268, u269, u270, u271, u272, u273, u274, u275, u276, u277, u278, u279, u280, u281, u282, u283, u284, u285, u286, u287, u288, u289, u290, u291, u292, u293, u294, u295, u296, u297, u298, u299, u300, u301, u302, u303, u304, u305, u306, u307, u308, u309, u310, u311, u312, u313, u314, u315, u316, u317, u318], []⟩ wr := by
  have hCH : Hid _ := hch0
  clear hch0
  have bT := NB_le L 32
  conv => arg 2; whnf
  have g0 : wr.cell? ⟨w.heap.size, 0, none⟩ = some (.slice (some ⟨nb, 0, none⟩) (NB L 32) cap) := hD0.sh.cell (by omega)
  go_wp2_with fail
  go_loopg [28, 296] (NB L 32) (fun k s28 s296 wx => ∃ j : Nat, k = NB L 32 - j ∧ j ≤ NB L 32 ∧ s296 = .int .i64 j ∧ s28 = .int .u64 (stG L C j : Nat) ∧
    NsD L w g M nb cap F (fun k => if k < j then stG L C k else 0) (lnG L C (lonT L 32) 0) (onG L C (lonT L 32) 0) ch wx)
  case atStart => exact ⟨0, rfl, by omega, rfl, rfl, by simpa using hD0⟩
  case round =>
    clear hD0 g0
    obtain ⟨j, hk0, hj, rfl, rfl, hD⟩ := hrel
    have hk : Hid _ := hk0
    clear hk0
    by_cases hlt : j < NB L 32
    · have hltI : (j : Int) < (NB L 32 : Int) := by omega
      have g0 : wr.cell? ⟨w.heap.size, 0, none⟩ = some (.slice (some ⟨nb, 0, none⟩) (NB L 32) cap) := hD.sh.cell (by omega)
      have g1 : wr.cell? ⟨nb, j * 9, none⟩ = some (.int .u64 0) := by
        rw [hD.nd.cell (by omega)]
        have := ndF_at (depN L) (fun k => if k < j then stG L C k else 0) (lnG L C (lonT L 32) 0) (onG L C (lonT L 32) 0) ch j 0 (by omega)
        rw [Nat.add_zero] at this
        rw [this]
        simp [ndC]
      have g2 : wr.frozen? ⟨nb, j * 9, none⟩ = false := hD.nd.frozen _
      have g3 : wr.cell? ⟨nb, j * 9 + 1, none⟩ = some (.int .u64 (lnG L C (lonT L 32) 0 j : Nat)) := by
        rw [hD.nd.cell (by omega), ndF_at _ _ _ _ _ j 1 (by omega)]
        rfl
      have hne : ¬ nb = w.heap.size := by have a := hD.B.hg; have b := hD.B.hgM; have c := hD.hnb; omega
      have hne' : ¬ w.heap.size = nb := fun x => hne x.symm
      go_wp2_with fail
      go_roundg (NB L 32 - (j + 1))
      case measure => have := hk.out; omega
      case rel =>
        have e1 : stG L C (j + 1) = (stG L C j + lnG L C (lonT L 32) 0 j) % 18446744073709551616 := by
          unfold stG
          simp only [sumF]
          omega
        refine ⟨j + 1, rfl, by omega, by go_num, ?_, hD.setNode _ _ ?_⟩
        · rw [e1, ← Int.natCast_add, wrap_u64_mod]
        · intro i
          rw [nd_st]
          have e2 : upd (fun k => if k < j then stG L C k else 0) j (stG L C j) = fun k => if k < j + 1 then stG L C k else 0 := by
            funext k
            unfold upd
            by_cases e : k = j
            · rw [if_pos e, if_pos (by omega), e]
            · rw [if_neg e]
              dsimp only
              by_cases h : k < j
              · rw [if_pos h, if_pos (by omega)]
              · rw [if_neg h, if_neg (by omega)]
          rw [e2]
    · have hj' : j = NB L 32 := by omega
      have hltI : ¬ (j : Int) < (NB L 32 : Int) := by omega
      go_wp2_with fail
      go_ret
      refine ⟨rfl, g, M, nb, cap, F, ch, ?_, hCH.out⟩
      obtain ⟨a1, a2, a3, a4, a5, a6, a7⟩ := hD
      refine ⟨a1, a2, a3, a4, a5.congr ?_, a6, a7⟩
      intro i hi
      unfold ndF
      dsimp only
      rw [if_pos (by omega)]
end Go.Proofs.Qxb6602643a
