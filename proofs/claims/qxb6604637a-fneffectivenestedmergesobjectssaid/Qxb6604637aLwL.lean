/- The law: the live entries. -/
import Derived.Test.Qxb6604637aLwM
namespace Go.Proofs.Qxb6604637a
open Go.RowKit
set_option linter.unusedVariables false

/-- a row of bools in a block of its own -/
def Bools (w : World) (a : Option Addr) (m : Nat) (P : Nat → Bool) : Prop := m = 0 ∨ ∃ g : Nat, a = some ⟨g, 0, none⟩ ∧ ∀ k, k < m → w.cell? ⟨g, k, none⟩ = some (.bool (P k))
theorem Bools.below {w w' : World} {a : Option Addr} {m : Nat} {P : Nat → Bool} (h : Bools w a m P) (hB : Below w.heap.size w w') : Bools w' a m P := by
  rcases h with rfl | ⟨g, rfl, h⟩
  · exact .inl rfl
  · refine .inr ⟨g, rfl, fun k hk => ?_⟩
    rw [hB.cell (block_lt_of_cell (h k hk))]
    exact h k hk
/-- the live entries among the first t -/
def live (fb : Nat → Bool) (t : Nat) : List Nat := (List.range t).filter (fun x => !fb x)
theorem live_mem {fb : Nat → Bool} {t x : Nat} : x ∈ live fb t ↔ x < t ∧ fb x = false := by simp [live]
theorem live_sorted (fb : Nat → Bool) (t : Nat) : (live fb t).Pairwise (· < ·) := (List.pairwise_lt_range).sublist List.filter_sublist
theorem live_len (fb : Nat → Bool) (t : Nat) : (live fb t).length ≤ t := by
  have := List.length_filter_le (fun x => !fb x) (List.range t)
  simpa [live] using this
theorem live_yes {fb : Nat → Bool} {t : Nat} (h : fb t = false) : live fb (t + 1) = live fb t ++ [t] := by simp [live, List.range_succ, h]
theorem live_no {fb : Nat → Bool} {t : Nat} (h : fb t = true) : live fb (t + 1) = live fb t := by simp [live, List.range_succ, h]
theorem IL.snoc {w : World} {base : Nat} {v : Value} {Xs : List Nat} {x : Nat} (h : w.ownsRow base 3 1 v (Xs.length + 1) (idxV Xs ++ [.int .i64 (x : Nat)])) : IL w base v (Xs ++ [x]) := by
  unfold IL
  rw [List.length_append, idxV_snoc]
  exact h

set_option maxHeartbeats 8000000 in
set_option maxRecDepth 100000 in
theorem lwL (w0 W : World) (hW0 : Below w0.heap.size w0 W) (aO aI aB aV aP aF aG aH aE : Option Addr) (m n N cO cI cB cV cP cF cG cH cE : Nat) (O I V : Nat → Nat → ByteArray) (B : Nat → Nat → Bool) (P fo fi fv : Nat → ByteArray) (fb : Nat → Bool) (L : Nat → Nat)
    (hN : N ≤ 1048576) (hL : ∀ i, L i ≤ 1048576) (hm : m ≤ 1048576) (hn : n ≤ 1048576) (hs : psum L N < maxLen)
    (hO : Rows W aO N L (fun i j => .string (O i j))) (hI : Rows W aI N L (fun i j => .string (I i j))) (hB : Rows W aB N L (fun i j => .bool (B i j))) (hV : Rows W aV N L (fun i j => .string (V i j)))
    (zO : ∀ i j, (O i j).size ≤ maxLen) (zI : ∀ i j, (I i j).size ≤ maxLen)
    (hP : Strs W aP m P) (zP : ∀ k, (P k).size ≤ maxLen) (hF : Strs W aF n fo) (hG : Strs W aG n fi) (hH : Strs W aH n fv) (hE : Bools W aE n fb) (zF : ∀ k, (fo k).size ≤ maxLen) (zG : ∀ k, (fi k).size ≤ maxLen)
    (hPs : ∀ k k', k < k' → k' < m → blt (P k) (P k') = true) (hPm : ∀ x, x < n → ∃ k, k < m ∧ P k = fo x)
    (hc : CardD (foldD (fun i => docF O I V B i (L i)) N) m) (howe : MemOwed (foldD (fun i => docF O I V B i (L i)) N) fo fi fv (live fb n) P m)
    {u4 u5 u6 u7 u8 u9 u14 u15 u16 u18 u19 u20 u21 u22 u23 u24 u25 u26 u27 u28 u29 u30 u31 u32 u33 u34 u35 u36 u37 u38 u39 u40 u41 u42 u43 u44 u45 u46 u47 u48 u49 u50 u51 u52 u53 u54 u55 u56 u57 u58 u59 u60 u61 u62 u63 u64 u65 u66 u67 u68 u69 u70 u71 u72 u73 u74 u75 u76 u77 u78 u79 u80 u81 u82 u83 u84 u85 u86 u87 u88 u89 u90 u91 u92 u93 u94 u95 u96 u97 u98 u99 u100 u101 u102 u103 u104 u105 u106 u107 u108 u109 u110 u111 u112 u113 u114 u115 u116 u117 u118 u119 u120 u121 u122 u123 u124 u125 u126 u127 u128 u129 u130 u131 u132 u133 u134 u135 u136 u137 u138 u139 u140 u141 u142 u143 u144 u145 u146 u147 u148 u149 u150 u151 u152 u153 u154 u155 u156 u157 u158 u159 u160 u161 u162 u163 u164 u165 u166 u167 u168 u169 u170 u171 u172 u173 u174 u175 u176 u177 u178 u179 u180 u181 u182 u183 u184 u185 u186 u187 u188 u189 u190 u191 u192 u193 u194 u195 u196 u197 u198 u199 u200 u201 u202 u203 u204 u205 u206 u207 u208 u209 u210 u211 u212 u213 u214 u215 u216 u217 u218 u219 u220 u221 u222 u223 u224 u225 u226 u227 u228 u229 u230 u231 u232 u233 u234 u235 u236 u237 u238 u239 u240 u241 u242 u243 u244 u245 u246 u247 u248 u249 u250 u251 u252 u253 u254 u255 u256 u257 u258 u259 u260 u261 u262 u263 u264 u265 u266 u267 u268 u269 u270 u271 u272 u273 u274 u275 u276 u277 u278 u279 u280 u281 u282 u283 u284 u285 u286 u287 u288 u289 u290 u291 u292 u293 u294 u295 u296 u297 u298 u299 u300 u301 u302 u303 u304 u305 u306 u307 u308 u309 u310 u311 u312 u313 u314 u315 u316 u317 u318 u319 u320 u321 u322 u323 u324 u325 u326 u327 u328 u329 u330 u331 u332 u333 u334 u335 u336 u337 u338 u339 u340 u341 u342 u343 u344 u345 u346 u347 u348 u349 u350 u351 u352 u353 u354 u355 u356 u357 u358 u359 u360 u361 u362 u363 u364 u365 u366 u367 u368 u369 u370 u371 u372 u373 u374 u375 u376 u377 u378 u379 u380 u381 u382 u383 u384 u385 u386 u387 u388 u389 u390 u391 u392 u393 u394 u395 u396 u397 u398 u399 u400 u401 u402 u403 u404 u405 u406 u407 u408 u409 u410 u411 u412 u413 u414 u415 u416 u417 u418 u419 u420 u421 u422 u423 u424 u425 u426 u427 u428 u429 u430 u431 u432 u433 u434 u435 u436 u437 u438 u439 u440 u441 u442 u443 u444 u445 u446 u447 u448 u449 u450 : Value} :
    Code.wp Try.prog (tailC 16 (Try.f4.body.getD .skip)) (bodyPost Try.prog Try.f4 (LwPost w0)) ⟨#[.slice aO N cO, .slice aI N cI, .slice aB N cB, .slice aV N cV, u4, u5, u6, u7, u8, u9, .slice aF n cF, .slice aG n cG, .slice aH n cH, .slice aE n cE, u14, u15, u16, .slice aP m cP, u18, u19, u20, u21, u22, u23, u24, u25, u26, u27, u28, u29, u30, u31, u32, u33, u34, u35, u36, u37, u38, u39, u40, u41, u42, u43, u44, u45, u46, u47, u48, u49, u50, u51, u52, u53, u54, u55, u56, u57, u58, u59, u60, u61, u62, u63, u64, u65, u66, u67, u68, u69, u70, u71, u72, u73, u74, u75, u76, u77, u78, u79, u80, u81, u82, u83, u84, u85, u86, u87, u88, u89, u90, u91, u92, u93, u94, u95, u96, u97, u98, u99, u100, u101, u102, u103, u104, u105, u106, u107, u108, u109, u110, u111, u112, u113, u114, u115, u116, u117, u118, u119, u120, u121, u122, u123, u124, u125, u126, u127, u128, u129, u130, u131, u132, u133, u134, u135, u136, u137, u138, u139, u140, u141, u142, u143, u144, u145, u146, u147, u148, u149, u150, u151, u152, u153, u154, u155, u156, u157, u158, u159, u160, u161, u162, u163, u164, u165, u166, u167, u168, u169, u170, u171, u172, u173, u174, u175, u176, u177, u178, u179, u180, u181, u182, u183, u184, u185, u186, u187, u188, u189, u190, u191, u192, u193, u194, u195, u196, u197, u198, u199, u200, u201, u202, u203, u204, u205, u206, u207, u208, u209, u210, u211, u212, u213, u214, u215, u216, u217, u218, u219, u220, u221, u222, u223, u224, u225, u226, u227, u228, u229, u230, u231, u232, u233, u234, u235, u236, u237, u238, u239, u240, u241, u242, u243, u244, u245, u246, u247, u248, u249, u250, u251, u252, u253, u254, u255, u256, u257, u258, u259, u260, u261, u262, u263, u264, u265, u266, u267, u268, u269, u270, u271, u272, u273, u274, u275, u276, u277, u278, u279, u280, u281, u282, u283, u284, u285, u286, u287, u288, u289, u290, u291, u292, u293, u294, u295, u296, u297, u298, u299, u300, u301, u302, u303, u304, u305, u306, u307, u308, u309, u310, u311, u312, u313, u314, u315, u316, u317, u318, u319, u320, u321, u322, u323, u324, u325, u326, u327, u328, u329, u330, u331, u332, u333, u334, u335, u336, u337, u338, u339, u340, u341, u342, u343, u344, u345, u346, u347, u348, u349, u350, u351, u352, u353, u354, u355, u356, u357, u358, u359, u360, u361, u362, u363, u364, u365, u366, u367, u368, u369, u370, u371, u372, u373, u374, u375, u376, u377, u378, u379, u380, u381, u382, u383, u384, u385, u386, u387, u388, u389, u390, u391, u392, u393, u394, u395, u396, u397, u398, u399, u400, u401, u402, u403, u404, u405, u406, u407, u408, u409, u410, u411, u412, u413, u414, u415, u416, u417, u418, u419, u420, u421, u422, u423, u424, u425, u426, u427, u428, u429, u430, u431, u432, u433, u434, u435, u436, u437, u438, u439, u440, u441, u442, u443, u444, u445, u446, u447, u448, u449, u450], []⟩ W := by
  obtain ⟨i3, hi3, hz3, hs3, hb3⟩ := info_parts Try.info3c
  have HI3 : Hid (Try.prog.info? 3 = some i3 ∧ i3.zero = some (.int .i64 0) ∧ i3.size = 1 ∧ i3.bytes = 8) := ⟨hi3, hz3, hs3, hb3⟩
  have HR1 : Hid (Rows W aO N L (fun i j => .string (O i j)) ∧ Rows W aI N L (fun i j => .string (I i j)) ∧ Rows W aB N L (fun i j => .bool (B i j)) ∧ Rows W aV N L (fun i j => .string (V i j))) := ⟨hO, hI, hB, hV⟩
  have HZ : Hid ((∀ i j, (O i j).size ≤ maxLen) ∧ (∀ i j, (I i j).size ≤ maxLen) ∧ (∀ k, (P k).size ≤ maxLen) ∧ (∀ k, (fo k).size ≤ maxLen) ∧ (∀ k, (fi k).size ≤ maxLen)) := ⟨zO, zI, zP, zF, zG⟩
  have HST : Hid (Strs W aP m P ∧ Strs W aF n fo ∧ Strs W aG n fi ∧ Strs W aH n fv) := ⟨hP, hF, hG, hH⟩
  have HPS : Hid (∀ k k', k < k' → k' < m → blt (P k) (P k') = true) := hPs
  have HPM : Hid (∀ x, x < n → ∃ k, k < m ∧ P k = fo x) := hPm
  have HC : Hid (CardD (foldD (fun i => docF O I V B i (L i)) N) m) := hc
  have HOWE : Hid (MemOwed (foldD (fun i => docF O I V B i (L i)) N) fo fi fv (live fb n) P m) := howe
  have HW0 : Hid (Below w0.heap.size w0 W) := hW0
  have HLL : Hid (∀ i, L i ≤ 1048576) := hL
  obtain ⟨gE, hgE⟩ : ∃ g : Nat, 0 < n → aE = some ⟨g, 0, none⟩ ∧ ∀ wx, Below W.heap.size W wx → ∀ k, k < n → wx.cell? ⟨g, k, none⟩ = some (.bool (fb k)) := by
    rcases hE with rfl | ⟨g, rfl, h⟩
    · exact ⟨0, fun h => absurd h (by omega)⟩
    · exact ⟨g, fun _ => ⟨rfl, fun wx hx k hk => by rw [hx.cell (block_lt_of_cell (h k hk))]; exact h k hk⟩⟩
  have GE : Hid _ := hgE
  clear hi3 hz3 hs3 hb3 hO hI hB hV zO zI hP zP hF hG hH hE zF zG hPs hPm hc howe hW0 hL hgE
  conv => arg 2; whnf
  go_wp2_with fail
  go_loopg [20, 21] n (fun k s20 s21 wr => ∃ t : Nat, k = n - t ∧ t ≤ n ∧ s21 = .int .i64 (t : Nat) ∧ IL wr W.heap.size s20 (live fb t) ∧ Below W.heap.size W wr)
  case atStart => exact ⟨0, rfl, by omega, rfl, own_nil _ _ _ _, Below.refl _ _⟩
  case round =>
    obtain ⟨t, hk, htn, rfl, hil, hbl⟩ := hrel
    have HK : Hid _ := hk
    have HIL : Hid (IL wr W.heap.size u20 (live fb t)) := hil
    have HBL : Hid (Below W.heap.size W wr) := hbl
    clear hk hil hbl
    by_cases ht : t < n
    · have htI : (t : Int) < (n : Int) := by omega
      obtain ⟨rfl, hce⟩ := GE.out (by omega)
      have gc := hce wr HBL.out t ht
      clear hce
      cases hb : fb t with
      | true =>
        rw [hb] at gc
        go_wp2_with fail
        go_roundg (n - (t + 1))
        case measure => have := HK.out; omega
        case rel => exact ⟨t + 1, by omega, by omega, by go_num, by rw [live_no hb]; exact HIL.out, HBL.out⟩
      | false =>
        rw [hb] at gc
        have hll := live_len fb t
        go_upto_region 40 with (first | (at_builtin; refine wpList_append_own_at _ rfl _ _ 27 rfl W.heap.size 3 i3 (.int .i64 0) 1 8 Try.underlying27 HI3.out.1 HI3.out.2.1 HI3.out.2.2.1 HI3.out.2.2.2 rfl (by decide) _ (live fb t).length (idxV (live fb t)) rfl ?oa ⟨wr.heap.size, 0, none⟩ 1 1 [.int .i64 (t : Nat)] rfl rfl ?ob ?oc ?od ?oe ?of ?_))
        case oa => exact World.ownsRow.alloc HIL.out _
        case oc => first | exact ints_oneCell .i64 [(t : Int)] | rfl
        case od => unfold maxLen; omega
        case oe => omega
        case of => have := HBL.out.size; first | omega | (rw [World.size_alloc']; omega)
        intro v1 W7 hown7 hg7 _ hloc7
        have g7 := app_grown hg7
        have s7 : Hid (IL W7 W.heap.size v1 (live fb t ++ [t])) := IL.snoc hown7
        have B7 : Hid (Below W.heap.size W W7) := app_below HBL.out HIL.out g7 (Nat.le_refl _) HBL.out.size
        clear hown7 hg7 hloc7 g7
        go_wp2_with fail
        go_roundg (n - (t + 1))
        case measure => have := HK.out; omega
        case rel => exact ⟨t + 1, by omega, by omega, by go_num, by rw [live_yes hb]; exact s7.out, B7.out⟩
    · have htI : ¬ (t : Int) < (n : Int) := by omega
      obtain rfl : t = n := by omega
      obtain ⟨aL, cL, rfl, hcL, hidx⟩ := IL.idx HIL.out
      have HID : Hid (IdxAt wr aL (live fb t)) := hidx
      clear hidx
      go_upto_if 231 with fail
      go_step
      go_step
      go_step
      go_step
      have hR1 := HR1.out
      have hZ := HZ.out
      have hST := HST.out
      exact lwM w0 wr (Below.trans' HW0.out HBL.out HW0.out.size) aO aI aB aV aP aF aG aH aL m t N cO cI cB cV cP cF cG cH cL (live fb t) O I V B P fo fi fv L hN HLL.out hm hn hs (hR1.1.below HBL.out) (hR1.2.1.below HBL.out) (hR1.2.2.1.below HBL.out) (hR1.2.2.2.below HBL.out) hZ.1 hZ.2.1
        (hST.1.below HBL.out) hZ.2.2.1 (hST.2.1.below HBL.out) (hST.2.2.1.below HBL.out) (hST.2.2.2.below HBL.out) hZ.2.2.2.1 hZ.2.2.2.2 HID.out hcL (live_sorted _ _) (fun x hx => (live_mem.1 hx).1) HPS.out (fun x hx => HPM.out x (live_mem.1 hx).1) HC.out HOWE.out
end Go.Proofs.Qxb6604637a
