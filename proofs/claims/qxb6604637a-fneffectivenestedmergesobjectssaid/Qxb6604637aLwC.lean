/- The law, from the call of ZZEffectiveNested on. -/
import Derived.Test.Qxb6604637aEn
import Derived.Test.Qxb6604637aSp
namespace Go.Proofs.Qxb6604637a
open Go.RowKit
set_option linter.unusedVariables false

/-- the law answers true and leaves what was there -/
def LwPost (w0 : World) (e : Ending) (w' : World) : Prop := e = .returned (.bool true) ∧ Below w0.heap.size w0 w'

theorem Below.trans' {B B' : Nat} {a b c : World} (h : Below B a b) (h' : Below B' b c) (hB : B ≤ B') : Below B a c :=
  h.trans ⟨h'.os, h'.tape, h'.output, h'.size, fun k hk => h'.block k (by omega)⟩

set_option maxHeartbeats 8000000 in
set_option maxRecDepth 100000 in
theorem lwC (w0 W : World) (hW0 : Below w0.heap.size w0 W) (aO aI aB aV aP aQ aR aS : Option Addr) (m q N gc cc cO cI cB cV cP cQ cR cS : Nat) (O I V : Nat → Nat → ByteArray) (B : Nat → Nat → Bool) (P Qo Qi Sv : Nat → ByteArray) (cnt : Nat → Nat) (L : Nat → Nat)
    (hN : N ≤ 1048576) (hL : ∀ i, L i ≤ 1048576) (hm : m ≤ 1048576) (hq : q ≤ 1048576) (hs : psum L N < maxLen)
    (hO : Rows W aO N L (fun i j => .string (O i j))) (hI : Rows W aI N L (fun i j => .string (I i j))) (hB : Rows W aB N L (fun i j => .bool (B i j))) (hV : Rows W aV N L (fun i j => .string (V i j)))
    (zO : ∀ i j, (O i j).size ≤ maxLen) (zI : ∀ i j, (I i j).size ≤ maxLen)
    (hP : Strs W aP m P) (hQ : Strs W aQ q Qo) (hR : Strs W aR q Qi) (hS : Strs W aS q Sv) (zP : ∀ k, (P k).size ≤ maxLen) (zQ : ∀ k, (Qo k).size ≤ maxLen) (zR : ∀ k, (Qi k).size ≤ maxLen)
    (hcn : ∀ k, k < m → W.cell? ⟨gc, k, none⟩ = some (.int .i64 (cnt k : Nat)))
    (hp : ∀ k, k < m → ∃ g, foldD (fun i => docF O I V B i (L i)) N (sk (P k)) = some g ∧ Card g (cnt k)) (hqq : ∀ k, k < q → ∃ g, foldD (fun i => docF O I V B i (L i)) N (sk (Qo k)) = some g ∧ g (sk (Qi k)) = some (is (Sv k))) (hc : CardD (foldD (fun i => docF O I V B i (L i)) N) m)
    {u4 u5 u6 u7 u8 u9 u10 u11 u12 u13 u14 u15 u16 u18 u19 u20 u21 u22 u27 u28 u29 u30 u31 u32 u33 u34 u35 u36 u37 u38 u39 u40 u41 u42 u43 u44 u45 u46 u47 u48 u49 u50 u51 u52 u53 u54 u55 u56 u57 u58 u59 u60 u61 u62 u63 u64 u65 u66 u67 u68 u69 u70 u71 u72 u73 u74 u75 u76 u77 u78 u79 u80 u81 u82 u83 u84 u85 u86 u87 u88 u89 u90 u91 u92 u93 u94 u95 u96 u97 u98 u99 u100 u101 u102 u103 u104 u105 u106 u107 u108 u109 u110 u111 u112 u113 u114 u115 u116 u117 u118 u119 u120 u121 u122 u123 u124 u125 u126 u127 u128 u129 u130 u131 u132 u133 u134 u135 u136 u137 u138 u139 u140 u141 u142 u143 u144 u145 u146 u147 u148 u149 u150 u151 u152 u153 u154 u155 u156 u157 u158 u159 u160 u161 u162 u163 u164 u165 u166 u167 u168 u169 u170 u171 u172 u173 u174 u175 u176 u177 u178 u179 u180 u181 u182 u183 u184 u185 u186 u187 u188 u189 u190 u191 u192 u193 u194 u195 u196 u197 u198 u199 u200 u201 u202 u203 u204 u205 u206 u207 u208 u209 u210 u211 u212 u213 u214 u215 u216 u217 u218 u219 u220 u221 u222 u223 u224 u225 u226 u227 u228 u229 u230 u231 u232 u233 u234 u235 u236 u237 u238 u239 u240 u241 u242 u243 u244 u245 u246 u247 u248 u249 u250 u251 u252 u253 u254 u255 u256 u257 u258 u259 u260 u261 u262 u263 u264 u265 u266 u267 u268 u269 u270 u271 u272 u273 u274 u275 u276 u277 u278 u279 u280 u281 u282 u283 u284 u285 u286 u287 u288 u289 u290 u291 u292 u293 u294 u295 u296 u297 u298 u299 u300 u301 u302 u303 u304 u305 u306 u307 u308 u309 u310 u311 u312 u313 u314 u315 u316 u317 u318 u319 u320 u321 u322 u323 u324 u325 u326 u327 u328 u329 u330 u331 u332 u333 u334 u335 u336 u337 u338 u339 u340 u341 u342 u343 u344 u345 u346 u347 u348 u349 u350 u351 u352 u353 u354 u355 u356 u357 u358 u359 u360 u361 u362 u363 u364 u365 u366 u367 u368 u369 u370 u371 u372 u373 u374 u375 u376 u377 u378 u379 u380 u381 u382 u383 u384 u385 u386 u387 u388 u389 u390 u391 u392 u393 u394 u395 u396 u397 u398 u399 u400 u401 u402 u403 u404 u405 u406 u407 u408 u409 u410 u411 u412 u413 u414 u415 u416 u417 u418 u419 u420 u421 u422 u423 u424 u425 u426 u427 u428 u429 u430 u431 u432 u433 u434 u435 u436 u437 u438 u439 u440 u441 u442 u443 u444 u445 u446 u447 u448 u449 u450 : Value} :
    Code.wp Try.prog (tailC 24 (Try.f4.body.getD .skip)) (bodyPost Try.prog Try.f4 (LwPost w0)) ⟨#[.slice aO N cO, .slice aI N cI, .slice aB N cB, .slice aV N cV, u4, u5, u6, u7, u8, u9, u10, u11, u12, u13, u14, u15, u16, .slice aP m cP, u18, u19, u20, u21, u22, .slice (some ⟨gc, 0, none⟩) m cc, .slice aQ q cQ, .slice aR q cR, .slice aS q cS, u27, u28, u29, u30, u31, u32, u33, u34, u35, u36, u37, u38, u39, u40, u41, u42, u43, u44, u45, u46, u47, u48, u49, u50, u51, u52, u53, u54, u55, u56, u57, u58, u59, u60, u61, u62, u63, u64, u65, u66, u67, u68, u69, u70, u71, u72, u73, u74, u75, u76, u77, u78, u79, u80, u81, u82, u83, u84, u85, u86, u87, u88, u89, u90, u91, u92, u93, u94, u95, u96, u97, u98, u99, u100, u101, u102, u103, u104, u105, u106, u107, u108, u109, u110, u111, u112, u113, u114, u115, u116, u117, u118, u119, u120, u121, u122, u123, u124, u125, u126, u127, u128, u129, u130, u131, u132, u133, u134, u135, u136, u137, u138, u139, u140, u141, u142, u143, u144, u145, u146, u147, u148, u149, u150, u151, u152, u153, u154, u155, u156, u157, u158, u159, u160, u161, u162, u163, u164, u165, u166, u167, u168, u169, u170, u171, u172, u173, u174, u175, u176, u177, u178, u179, u180, u181, u182, u183, u184, u185, u186, u187, u188, u189, u190, u191, u192, u193, u194, u195, u196, u197, u198, u199, u200, u201, u202, u203, u204, u205, u206, u207, u208, u209, u210, u211, u212, u213, u214, u215, u216, u217, u218, u219, u220, u221, u222, u223, u224, u225, u226, u227, u228, u229, u230, u231, u232, u233, u234, u235, u236, u237, u238, u239, u240, u241, u242, u243, u244, u245, u246, u247, u248, u249, u250, u251, u252, u253, u254, u255, u256, u257, u258, u259, u260, u261, u262, u263, u264, u265, u266, u267, u268, u269, u270, u271, u272, u273, u274, u275, u276, u277, u278, u279, u280, u281, u282, u283, u284, u285, u286, u287, u288, u289, u290, u291, u292, u293, u294, u295, u296, u297, u298, u299, u300, u301, u302, u303, u304, u305, u306, u307, u308, u309, u310, u311, u312, u313, u314, u315, u316, u317, u318, u319, u320, u321, u322, u323, u324, u325, u326, u327, u328, u329, u330, u331, u332, u333, u334, u335, u336, u337, u338, u339, u340, u341, u342, u343, u344, u345, u346, u347, u348, u349, u350, u351, u352, u353, u354, u355, u356, u357, u358, u359, u360, u361, u362, u363, u364, u365, u366, u367, u368, u369, u370, u371, u372, u373, u374, u375, u376, u377, u378, u379, u380, u381, u382, u383, u384, u385, u386, u387, u388, u389, u390, u391, u392, u393, u394, u395, u396, u397, u398, u399, u400, u401, u402, u403, u404, u405, u406, u407, u408, u409, u410, u411, u412, u413, u414, u415, u416, u417, u418, u419, u420, u421, u422, u423, u424, u425, u426, u427, u428, u429, u430, u431, u432, u433, u434, u435, u436, u437, u438, u439, u440, u441, u442, u443, u444, u445, u446, u447, u448, u449, u450], []⟩ W := by
  have HEN := zzEn W aO aI aB aV aP aQ aR m q N cO cI cB cV cP cQ cR O I V B P Qo Qi Sv cnt m L hN hL hm hq hs hO hI hB hV zO zI hP hQ hR zP zQ zR hp hqq hc
  have HE : Hid (Calls Try.prog 15 #[.slice aO N cO, .slice aI N cI, .slice aB N cB, .slice aV N cV, .slice aP m cP, .slice aQ q cQ, .slice aR q cR] W (EnPost W m q cnt Sv m)) := HEN
  have HS : Hid (Strs W aS q Sv) := hS
  have HCN : Hid (∀ k, k < m → W.cell? ⟨gc, k, none⟩ = some (.int .i64 (cnt k : Nat))) := hcn
  have HW0 : Hid (Below w0.heap.size w0 W) := hW0
  clear HEN hO hI hB hV zO zI hP hQ hR hS zP zQ zR hcn hp hqq hc hW0 hL hs
  conv => arg 2; whnf
  go_wp2_with fail
  refine Calls.mono HE.out ?_
  rintro e W1 ⟨p1, p2, p3, p4, rfl, h1, h2, h3, h4, h5⟩
  have H1 : Hid (∀ k, k < m → W1.cell? ⟨p1, k, none⟩ = some (.bool true)) := h1
  have H2 : Hid (∀ k, k < m → W1.cell? ⟨p2, k, none⟩ = some (.int .i64 (cnt k : Nat))) := h2
  have H3 : Hid (∀ k, k < q → W1.cell? ⟨p3, k, none⟩ = some (.bool true)) := h3
  have H4 : Hid (∀ k, k < q → W1.cell? ⟨p4, k, none⟩ = some (.string (Sv k))) := h4
  have H5 : Hid (Below W.heap.size W W1) := h5
  have HCN1 : Hid (∀ k, k < m → W1.cell? ⟨gc, k, none⟩ = some (.int .i64 (cnt k : Nat))) := fun k hk => by
    have := HCN.out k hk
    rw [h5.cell (block_lt_of_cell this)]; exact this
  have HS1 : Hid (Strs W1 aS q Sv) := HS.out.below h5
  clear h1 h2 h3 h4 h5
  have hfin : Hid (Below w0.heap.size w0 W1) := Below.trans' HW0.out H5.out HW0.out.size
  have hmz : ((m : Int) == 0) = decide (m = 0) := by
    by_cases e : m = 0
    · subst e; rfl
    · rw [beq_eq_false_iff_ne.2 (by omega)]; simp [e]
  go_wp2_with fail
  go_loopg [36] m (fun k s36 wr => ∃ j : Nat, k = m - j ∧ j ≤ m ∧ s36 = .int .i64 (j : Nat) ∧ ∃ x, wr = W1.drewN x)
  case atStart => exact ⟨0, rfl, by omega, rfl, 0, rfl⟩
  case round =>
    obtain ⟨j, hk, hjm, rfl, x, rfl⟩ := hrel
    have HK : Hid _ := hk
    clear hk
    by_cases hj : j < m
    · have hjI : (j : Int) < (m : Int) := by omega
      have g1 := H1.out j hj
      have g2 := H2.out j hj
      have g3 := HCN1.out j hj
      go_wp2_with fail
      go_quiet (fail)
      go_wp2_with fail
      go_roundg (m - (j + 1))
      case measure => have := HK.out; omega
      case rel => exact ⟨j + 1, by omega, by omega, by go_num, _, rfl⟩
    · have hjI : ¬ (j : Int) < (m : Int) := by omega
      obtain ⟨gS, hgS⟩ : ∃ gS : Nat, 0 < q → aS = some ⟨gS, 0, none⟩ ∧ ∀ k, k < q → W1.cell? ⟨gS, k, none⟩ = some (.string (Sv k)) := by
        rcases HS1.out with rfl | ⟨g, rfl, h⟩
        · exact ⟨0, fun h => absurd h (by omega)⟩
        · exact ⟨g, fun _ => ⟨rfl, h⟩⟩
      have HGS : Hid _ := hgS
      clear hgS HS1
      go_wp2_with fail
      go_loopg [37] q (fun k s37 wx => ∃ i : Nat, k = q - i ∧ i ≤ q ∧ s37 = .int .i64 (i : Nat) ∧ ∃ x, wx = W1.drewN x)
      case atStart => exact ⟨0, rfl, by omega, rfl, x, rfl⟩
      case round =>
        obtain ⟨i, hk2, hiq, rfl, x2, rfl⟩ := hrel
        have HK2 : Hid _ := hk2
        clear hk2
        by_cases hi : i < q
        · have hiI : (i : Int) < (q : Int) := by omega
          obtain ⟨rfl, hsc⟩ := HGS.out (by omega)
          have g1 := H3.out i hi
          have g2 := H4.out i hi
          have g3 := hsc i hi
          clear hsc
          go_wp2_with fail
          go_quiet (fail)
          go_wp2_with fail
          go_roundg (q - (i + 1))
          case measure => have := HK2.out; omega
          case rel => exact ⟨i + 1, by omega, by omega, by go_num, _, rfl⟩
        · have hiI : ¬ (i : Int) < (q : Int) := by omega
          go_wp2_with fail
          go_ret
          exact ⟨rfl, below_drewN hfin.out _⟩
end Go.Proofs.Qxb6604637a
