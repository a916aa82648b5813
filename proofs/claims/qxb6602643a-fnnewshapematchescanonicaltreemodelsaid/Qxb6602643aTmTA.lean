/- FnNewShapeMatchesCanonicalTreeModel: the codes, and the model's nodes. -/
import Derived.Test.Qxb6602643aTmTB
namespace Go.Proofs.Qxb6602643a
open Go.RowKit
set_option linter.unusedVariables false

theorem own_shape {w : World} {base n : Nat} {e : TypeId} {v : Value} {xs : List Value} (h : w.ownsRow base e 1 v n xs) :
    ∃ a c g, v = .slice a n c ∧ (0 < n → a = some ⟨g, 0, none⟩) ∧ ∀ k, k < n → w.cell? ⟨g, k, none⟩ = xs[k]? := by
  rcases h.2 with ⟨rfl, rfl⟩ | ⟨g, cap, cur, rfl, hg, hh, hn, _, hsz, ht⟩
  · exact ⟨none, 0, 0, rfl, fun x => by omega, fun k hk => by omega⟩
  · refine ⟨some ⟨g, 0, none⟩, cap, g, rfl, fun _ => rfl, fun k hk => ?_⟩
    rw [← ht, List.getElem?_take_of_lt (by omega), Array.getElem?_toList]
    simp [World.cell?, hh]

theorem i64s_get (l : List Nat) (j : Nat) (h : j < l.length) : (i64s l)[j]? = some (.int .i64 (l.getD j 0 : Nat)) := by
  simp [i64s, List.getElem?_map, List.getD_eq_getElem?_getD, List.getElem?_eq_getElem h]

set_option maxRecDepth 100000 in
set_option maxHeartbeats 2000000 in
theorem tm_tailA {L C : Nat → Nat} {w0 W : World} {cB lB zb PB b8 b9 b10 c7 : Nat} {F : Nat → Nat} {ch : Nat → Nat → Int}
    (hbel : Below w0.heap.size w0 W) (hm : ∀ i, i < 256 → L i ≤ 32) (hK : SK L (lonT L 32) ≤ 2 ^ 32) (hC64 : ∀ i, i < 256 → C i < 18446744073709551616)
    (hC : W.rowIs cB 38 256 (fun i => .int .u64 (C i))) (hL : W.rowIs lB 23 256 (fun i => .int .u8 (L i)))
    (h8 : W.rowIs b8 41 256 (pthT L PB (lonT L 32))) (h9 : W.rowIs b9 38 256 (fun c => .int .u64 (codT L (lonT L 32) c : Nat)))
    (h10 : W.rowIs b10 38 256 (fun c => .int .u64 (codT L (lonT L 32) c : Nat)))
    (hPB : W.rowIs PB 21 (offT L (lonT L 32)) (fun x => .int .i32 (F x : Nat))) (hPI : PI L 32 0 F)
    (hnd : rowPre W zb 53 (NB L 32 * 9) (ndF (depN L) (stG L C) (lnG L C (lonT L 32) 0) (onG L C (lonT L 32) 0) ch)) (hCH : CH L (lonT L 32) 0 ch)
    {u2 u3 u4 u5 u6 u11 u12 u13 u14 u15 u16 u17 u18 u19 u20 u21 u22 u23 u24 u25 u26 u27 u28 u29 u30 u31 u32 u33 u34 u35 u36 u37 u38 u39 u40 u41 u42 u43 u44 u45 u46 u47 u48 u49 u50 u51 u52 u53 u54 u55 u56 u57 u58 u59 u60 u61 u62 u63 u64 u65 u66 u67 u68 u69 u70 u71 u72 u73 u74 u75 u76 u77 u78 u79 u80 u81 u82 u83 u84 u85 u86 u87 u88 u89 u90 u91 u92 u93 u94 u95 u96 u97 u98 u99 u100 u101 u102 u103 u104 u105 u106 u107 u108 u109 u110 u111 u112 u113 u114 u115 u116 u117 u118 u119 u120 u121 u122 u123 u124 u125 u126 u127 u128 u129 u130 u131 u132 u133 u134 u135 u136 u137 u138 u139 u140 u141 u142 u143 u144 u145 u146 u147 u148 u149 u150 u151 u152 u153 u154 u155 u156 u157 u158 u159 u160 u161 u162 u163 u164 u165 u166 u167 u168 u169 u170 u171 u172 u173 u174 u175 u176 u177 u178 u179 u180 u181 u182 u183 u184 u185 u186 u187 u188 u189 u190 u191 u192 u193 u194 u195 u196 u197 u198 u199 u200 u201 u202 u203 u204 u205 u206 u207 u208 u209 u210 u211 u212 u213 u214 u215 u216 u217 u218 u219 u220 u221 u222 u223 u224 u225 u226 u227 u228 u229 u230 u231 u232 u233 u234 u235 u236 u237 u238 u239 u240 u241 u242 u243 u244 u245 u246 u247 u248 u249 u250 u251 u252 u253 u254 u255 u256 u257 u258 u259 u260 u261 u262 u263 u264 u265 u266 u267 u268 u269 u270 u271 u272 u273 u274 u275 u276 u277 u278 u279 u280 u281 u282 u283 u284 u285 u286 u287 u288 u289 u290 : Value} :
    Code.wp Try.prog (tailC 9 (Try.f6.body.getD .skip)) (bodyPost Try.prog Try.f6 (fun e w' => e = .returned (.bool true) ∧ Below w0.heap.size w0 w')) ⟨#[.pointer (some ⟨cB, 0, none⟩), .pointer (some ⟨lB, 0, none⟩), u2, u3, u4, u5, u6, .slice (some ⟨zb, 0, none⟩) (NB L 32) c7, .pointer (some ⟨b8, 0, none⟩), .pointer (some ⟨b9, 0, none⟩), .pointer (some ⟨b10, 0, none⟩), u11, u12, u13, u14, u15, u16, u17, u18, u19, u20, u21, u22, u23, u24, u25, u26, u27, u28, u29, u30, u31, u32, u33, u34, u35, u36, u37, u38, u39, u40, u41, u42, u43, u44, u45, u46, u47, u48, u49, u50, u51, u52, u53, u54, u55, u56, u57, u58, u59, u60, u61, u62, u63, u64, u65, u66, u67, u68, u69, u70, u71, u72, u73, u74, u75, u76, u77, u78, u79, u80, u81, u82, u83, u84, u85, u86, u87, u88, u89, u90, u91, u92, u93, u94, u95, u96, u97, u98, u99, u100, u101, u102, u103, u104, u105, u106, u107, u108, u109, u110, u111, u112, u113, u114, u115, u116, u117, u118, u119, u120, u121, u122, u123, u124, u125, u126, u127, u128, u129, u130, u131, u132, u133, u134, u135, u136, u137, u138, u139, u140, u141, u142, u143, u144, u145, u146, u147, u148, u149, u150, u151, u152, u153, u154, u155, u156, u157, u158, u159, u160, u161, u162, u163, u164, u165, u166, u167, u168, u169, u170, u171, u172, u173, u174, u175, u176, u177, u178, u179, u180, u181, u182, u183, u184, u185, u186, u187, u188, u189, u190, u191, u192, u193, u194, u195, u196, u197, u198, u199, u200, u201, u202, u203, u204, u205, u206, u207, u208, u209, u210, u211, u212, u213, u214, u215, u216, u217, u218, u219, u220, u221, u222, u223, u224, u225, u226, u227, u228, u229, u230, u231, u232, u233, u234, u235, u236, u237, u238, u239, u240, u241, u242, u243, u244, u245, u246, u247, u248, u249, u250, u251, u252, u253, u254, u255, u256, u257, u258, u259, u260, u261, u262, u263, u264, u265, u266, u267, u268, u269, u270, u271, u272, u273, u274, u275, u276, u277, u278, u279, u280, u281, u282, u283, u284, u285, u286, u287, u288, u289, u290], []⟩ W := by
  have bT := NB_le L 32
  have b32 := lonT_le L 32
  have HB : Hid _ := hm
  have HK : Hid _ := hK
  have HC64 : Hid _ := hC64
  have HPI : Hid _ := hPI
  have HCH : Hid _ := hCH
  have hWs := hbel.size
  clear hm hK hPI hC64 hCH
  conv => arg 2; whnf
  go_wp2_with fail
  go_loopg [11] 256 (fun k s11 wx => ∃ c : Nat, k = 256 - c ∧ c ≤ 256 ∧ s11 = .int .i64 c ∧ ∃ n, wx = W.drewN n)
  case atStart => exact ⟨0, rfl, by omega, rfl, 0, rfl⟩
  case round =>
    obtain ⟨c, hk0, hc, rfl, n, rfl⟩ := hrel
    have hk : Hid _ := hk0
    clear hk0
    by_cases hlt : c < 256
    · have hltI : (c : Int) < 256 := by omega
      have g1 : W.cell? ⟨b9, c, none⟩ = some (.int .u64 (codT L (lonT L 32) c : Nat)) := h9.cell hlt
      have g2 : W.cell? ⟨b10, c, none⟩ = some (.int .u64 (codT L (lonT L 32) c : Nat)) := h10.cell hlt
      go_upto_region 14 with fail
      go_quiet (fail)
      go_wp2_with fail
      go_roundg (256 - (c + 1))
      case measure => have := hk.out; omega
      case rel => exact ⟨c + 1, rfl, by omega, by go_num, _, rfl⟩
    · have hltI : ¬ (c : Int) < 256 := by omega
      go_upto_region 16 with fail
      go_cut [12, 13] from 67 (fun s12 s13 wc => ∃ a12 a13 c12 c13 g12 g13, s12 = .slice a12 (NB L 32) c12 ∧ s13 = .slice a13 (NB L 32) c13 ∧ Below W.heap.size W wc ∧ TmW L C cB lB zb PB b8 b9 b10 g12 g13 a12 a13 F ch wc)
      case rest =>
        obtain ⟨a12, a13, c12, c13, g12, g13, rfl, rfl, h1, h2⟩ := hcut
        go_upto_if 75 with fail
        go_step
        go_step
        go_step
        go_step
        exact tm_tailB (hbel.trans (h1.mono hWs)) HB.out HK.out HC64.out h2 HPI.out HCH.out
      have hbn := below_drewN (Below.refl W.heap.size W) n
      have hLn := rowIs_drewN hL n
      have h10n := rowIs_drewN h10 n
      have hsn : (W.drewN n).heap.size = W.heap.size := rfl
      go_wp2_with fail
      refine (internal_any (W.drewN n) lB b10 L hLn.lt h10n.lt (fun i hi => hLn.cell hi) (fun i hi => h10n.cell hi) HB.out HK.out).mono ?_
      rintro e w' ⟨v6, v7, rfl, ho6, ho7, hb6⟩
      obtain ⟨a12, c12, g12, rfl, p1, p2⟩ := own_shape ho6
      obtain ⟨a13, c13, g13, rfl, p3, p4⟩ := own_shape ho7
      have hbw : Below W.heap.size W w' := hbn.trans (hb6.mono (Nat.le_of_eq hsn.symm))
      clear hb6 ho6 ho7 hLn h10n hbn hsn
      have hTW : TmW L C cB lB zb PB b8 b9 b10 g12 g13 a12 a13 F ch w' :=
        ⟨hC.of_block (hbw.block _ hC.lt), hL.of_block (hbw.block _ hL.lt), h8.of_block (hbw.block _ h8.lt), h9.of_block (hbw.block _ h9.lt), h10.of_block (hbw.block _ h10.lt), hPB.of_block (hbw.block _ hPB.lt), hnd.of_block (hbw.block _ hnd.lt), fun h => ⟨p1 h, p3 h⟩,
         fun k hk => by rw [p2 k hk, i64s_get _ _ (by rw [dl_length]; exact hk)]; rfl,
         fun k hk => by rw [p4 k hk, u64s_get _ _ (by rw [pl_length]; exact hk)]; rfl⟩
      have HTW : Hid _ := hTW
      clear hTW p1 p2 p3 p4
      go_wp2_with fail
      go_meet
      case rel => exact ⟨a12, a13, c12, c13, g12, g13, rfl, rfl, hbw, HTW.out⟩
end Go.Proofs.Qxb6602643a
