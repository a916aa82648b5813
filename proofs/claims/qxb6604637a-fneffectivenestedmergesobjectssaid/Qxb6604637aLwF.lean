/- The law: the entries laid flat. -/
import Derived.Test.Qxb6604637aLwK
namespace Go.Proofs.Qxb6604637a
open Go.RowKit
set_option linter.unusedVariables false

theorem str_fix {w : World} {base : Nat} {v : Value} {Xs Ys : List ByteArray} {x : ByteArray} {n : Nat} {l : List Value} (h : w.ownsRow base 9 1 v n l) (hn : n = (Xs ++ Ys).length + 1 := by simp) (hl : l = (Xs ++ Ys).map Value.string ++ [.string x] := by simp) : SL w base v (Xs ++ Ys ++ [x]) := by
  subst hn
  subst hl
  exact SL.snoc h

/-- the first j of row i -/
def rowT {α : Type} (V : Nat → Nat → α) (i j : Nat) : List α := (List.range j).map (V i)
/-- the first i rows, one behind the other -/
def flatL {α : Type} (V : Nat → Nat → α) (L : Nat → Nat) : Nat → List α
  | 0 => []
  | i + 1 => flatL V L i ++ rowT V i (L i)
theorem flat_len {α : Type} (V : Nat → Nat → α) (L : Nat → Nat) : ∀ i, (flatL V L i).length = psum L i
  | 0 => rfl
  | i + 1 => by simp [flatL, rowT, psum, flat_len V L i]
theorem rowT_len {α : Type} (V : Nat → Nat → α) (i j : Nat) : (rowT V i j).length = j := by simp [rowT]
theorem rowT_succ {α : Type} (V : Nat → Nat → α) (i j : Nat) : rowT V i (j + 1) = rowT V i j ++ [V i j] := by simp [rowT, List.range_succ]
theorem fr_len {α : Type} (V : Nat → Nat → α) (L : Nat → Nat) (i j : Nat) : (flatL V L i ++ rowT V i j).length = psum L i + j := by rw [List.length_append, flat_len, rowT_len]

theorem BL.snoc {w : World} {base : Nat} {v : Value} {Xs : List Bool} {x : Bool} (h : w.ownsRow base 4 1 v (Xs.length + 1) (Xs.map Value.bool ++ [.bool x])) : BL w base v (Xs ++ [x]) := by
  unfold BL
  rw [List.length_append, List.map_append]
  exact h
theorem bool_one (x : Bool) : ∀ u ∈ [Value.bool x], u.oneCell' = true := by
  intro u hu
  rw [List.mem_singleton.1 hu]
  rfl
theorem BL.bools {w : World} {base : Nat} {v : Value} {Xs : List Bool} (h : BL w base v Xs) : ∃ a c, v = .slice a Xs.length c ∧ Bools w a Xs.length (fun k => Xs.getD k false) := by
  have h0 := h
  rcases h0.2 with ⟨rfl, hn⟩ | ⟨g, cap, cur, rfl, _⟩
  · exact ⟨none, 0, by rw [hn], .inl hn⟩
  · refine ⟨_, cap, rfl, ?_⟩
    by_cases e : Xs.length = 0
    · exact .inl e
    · refine .inr ⟨g, rfl, fun k hk => ?_⟩
      refine (owns_cells h rfl).2.2 k _ ?_
      rw [List.getElem?_map, List.getElem?_eq_getElem hk, Option.map_some]
      show _ = some (Value.bool (Xs.getD k false))
      rw [List.getD_eq_getElem?_getD, List.getElem?_eq_getElem hk]
      rfl

theorem flat_all {X : Nat → Nat → ByteArray} {L : Nat → Nat} (h : ∀ i j, (X i j).size ≤ maxLen) : ∀ i, ∀ x ∈ flatL X L i, x.size ≤ maxLen
  | 0, x, hx => by simp [flatL] at hx
  | i + 1, x, hx => by
    rcases List.mem_append.1 hx with hx | hx
    · exact flat_all h i x hx
    · obtain ⟨j, _, rfl⟩ := List.mem_map.1 hx
      exact h i j

theorem bool_fix {w : World} {base : Nat} {v : Value} {Xs Ys : List Bool} {x : Bool} {n : Nat} {l : List Value} (h : w.ownsRow base 4 1 v n l) (hn : n = (Xs ++ Ys).length + 1 := by simp) (hl : l = (Xs ++ Ys).map Value.bool ++ [.bool x] := by simp) : BL w base v (Xs ++ Ys ++ [x]) := by
  subst hn
  subst hl
  exact BL.snoc h

set_option maxHeartbeats 16000000 in
set_option maxRecDepth 100000 in
theorem lwF (w0 W : World) (hW0 : Below w0.heap.size w0 W) (aO aI aB aV : Option Addr) (N cO cI cB cV : Nat) (O I V : Nat → Nat → ByteArray) (B : Nat → Nat → Bool) (L : Nat → Nat)
    (hN : N ≤ 1048576) (hL : ∀ i, L i ≤ 1048576) (hn : psum L N ≤ 1048576)
    (hO : Rows W aO N L (fun i j => .string (O i j))) (hI : Rows W aI N L (fun i j => .string (I i j))) (hB : Rows W aB N L (fun i j => .bool (B i j))) (hV : Rows W aV N L (fun i j => .string (V i j)))
    (zO : ∀ i j, (O i j).size ≤ maxLen) (zI : ∀ i j, (I i j).size ≤ maxLen)
    (howe : KeyOwed (foldD (fun i => docF O I V B i (L i)) N) (fun k => (flatL O L N).getD k ByteArray.empty) (fun k => (flatL I L N).getD k ByteArray.empty) (fun k => (flatL V L N).getD k ByteArray.empty) (fun k => (flatL B L N).getD k false) (psum L N))
    {u4 u5 u6 u7 u8 u9 u10 u11 u12 u13 u14 u15 u16 u17 u18 u19 u20 u21 u22 u23 u24 u25 u26 u27 u28 u29 u30 u31 u32 u33 u34 u35 u36 u37 u38 u39 u40 u41 u42 u43 u44 u45 u46 u47 u48 u49 u50 u51 u52 u53 u54 u55 u56 u57 u58 u59 u60 u61 u62 u63 u64 u65 u66 u67 u68 u69 u70 u71 u72 u73 u74 u75 u76 u77 u78 u79 u80 u81 u82 u83 u84 u85 u86 u87 u88 u89 u90 u91 u92 u93 u94 u95 u96 u97 u98 u99 u100 u101 u102 u103 u104 u105 u106 u107 u108 u109 u110 u111 u112 u113 u114 u115 u116 u117 u118 u119 u120 u121 u122 u123 u124 u125 u126 u127 u128 u129 u130 u131 u132 u133 u134 u135 u136 u137 u138 u139 u140 u141 u142 u143 u144 u145 u146 u147 u148 u149 u150 u151 u152 u153 u154 u155 u156 u157 u158 u159 u160 u161 u162 u163 u164 u165 u166 u167 u168 u169 u170 u171 u172 u173 u174 u175 u176 u177 u178 u179 u180 u181 u182 u183 u184 u185 u186 u187 u188 u189 u190 u191 u192 u193 u194 u195 u196 u197 u198 u199 u200 u201 u202 u203 u204 u205 u206 u207 u208 u209 u210 u211 u212 u213 u214 u215 u216 u217 u218 u219 u220 u221 u222 u223 u224 u225 u226 u227 u228 u229 u230 u231 u232 u233 u234 u235 u236 u237 u238 u239 u240 u241 u242 u243 u244 u245 u246 u247 u248 u249 u250 u251 u252 u253 u254 u255 u256 u257 u258 u259 u260 u261 u262 u263 u264 u265 u266 u267 u268 u269 u270 u271 u272 u273 u274 u275 u276 u277 u278 u279 u280 u281 u282 u283 u284 u285 u286 u287 u288 u289 u290 u291 u292 u293 u294 u295 u296 u297 u298 u299 u300 u301 u302 u303 u304 u305 u306 u307 u308 u309 u310 u311 u312 u313 u314 u315 u316 u317 u318 u319 u320 u321 u322 u323 u324 u325 u326 u327 u328 u329 u330 u331 u332 u333 u334 u335 u336 u337 u338 u339 u340 u341 u342 u343 u344 u345 u346 u347 u348 u349 u350 u351 u352 u353 u354 u355 u356 u357 u358 u359 u360 u361 u362 u363 u364 u365 u366 u367 u368 u369 u370 u371 u372 u373 u374 u375 u376 u377 u378 u379 u380 u381 u382 u383 u384 u385 u386 u387 u388 u389 u390 u391 u392 u393 u394 u395 u396 u397 u398 u399 u400 u401 u402 u403 u404 u405 u406 u407 u408 u409 u410 u411 u412 u413 u414 u415 u416 u417 u418 u419 u420 u421 u422 u423 u424 u425 u426 u427 u428 u429 u430 u431 u432 u433 u434 u435 u436 u437 u438 u439 u440 u441 u442 u443 u444 u445 u446 u447 u448 u449 u450 : Value} :
    Code.wp Try.prog (tailC 9 (Try.f4.body.getD .skip)) (bodyPost Try.prog Try.f4 (LwPost w0)) ⟨#[.slice aO N cO, .slice aI N cI, .slice aB N cB, .slice aV N cV, u4, u5, u6, u7, u8, u9, u10, u11, u12, u13, u14, u15, u16, u17, u18, u19, u20, u21, u22, u23, u24, u25, u26, u27, u28, u29, u30, u31, u32, u33, u34, u35, u36, u37, u38, u39, u40, u41, u42, u43, u44, u45, u46, u47, u48, u49, u50, u51, u52, u53, u54, u55, u56, u57, u58, u59, u60, u61, u62, u63, u64, u65, u66, u67, u68, u69, u70, u71, u72, u73, u74, u75, u76, u77, u78, u79, u80, u81, u82, u83, u84, u85, u86, u87, u88, u89, u90, u91, u92, u93, u94, u95, u96, u97, u98, u99, u100, u101, u102, u103, u104, u105, u106, u107, u108, u109, u110, u111, u112, u113, u114, u115, u116, u117, u118, u119, u120, u121, u122, u123, u124, u125, u126, u127, u128, u129, u130, u131, u132, u133, u134, u135, u136, u137, u138, u139, u140, u141, u142, u143, u144, u145, u146, u147, u148, u149, u150, u151, u152, u153, u154, u155, u156, u157, u158, u159, u160, u161, u162, u163, u164, u165, u166, u167, u168, u169, u170, u171, u172, u173, u174, u175, u176, u177, u178, u179, u180, u181, u182, u183, u184, u185, u186, u187, u188, u189, u190, u191, u192, u193, u194, u195, u196, u197, u198, u199, u200, u201, u202, u203, u204, u205, u206, u207, u208, u209, u210, u211, u212, u213, u214, u215, u216, u217, u218, u219, u220, u221, u222, u223, u224, u225, u226, u227, u228, u229, u230, u231, u232, u233, u234, u235, u236, u237, u238, u239, u240, u241, u242, u243, u244, u245, u246, u247, u248, u249, u250, u251, u252, u253, u254, u255, u256, u257, u258, u259, u260, u261, u262, u263, u264, u265, u266, u267, u268, u269, u270, u271, u272, u273, u274, u275, u276, u277, u278, u279, u280, u281, u282, u283, u284, u285, u286, u287, u288, u289, u290, u291, u292, u293, u294, u295, u296, u297, u298, u299, u300, u301, u302, u303, u304, u305, u306, u307, u308, u309, u310, u311, u312, u313, u314, u315, u316, u317, u318, u319, u320, u321, u322, u323, u324, u325, u326, u327, u328, u329, u330, u331, u332, u333, u334, u335, u336, u337, u338, u339, u340, u341, u342, u343, u344, u345, u346, u347, u348, u349, u350, u351, u352, u353, u354, u355, u356, u357, u358, u359, u360, u361, u362, u363, u364, u365, u366, u367, u368, u369, u370, u371, u372, u373, u374, u375, u376, u377, u378, u379, u380, u381, u382, u383, u384, u385, u386, u387, u388, u389, u390, u391, u392, u393, u394, u395, u396, u397, u398, u399, u400, u401, u402, u403, u404, u405, u406, u407, u408, u409, u410, u411, u412, u413, u414, u415, u416, u417, u418, u419, u420, u421, u422, u423, u424, u425, u426, u427, u428, u429, u430, u431, u432, u433, u434, u435, u436, u437, u438, u439, u440, u441, u442, u443, u444, u445, u446, u447, u448, u449, u450], []⟩ W := by
  obtain ⟨i9, hi9, hz9, hs9, hb9⟩ := info_parts Try.info9c
  have HI9 : Hid (Try.prog.info? 9 = some i9 ∧ i9.zero = some (.string ByteArray.empty) ∧ i9.size = 1 ∧ i9.bytes = 16) := ⟨hi9, hz9, hs9, hb9⟩
  obtain ⟨i4, hi4, hz4, hs4, hb4⟩ := info_parts Try.info4c
  have HI4 : Hid (Try.prog.info? 4 = some i4 ∧ i4.zero = some (.bool false) ∧ i4.size = 1 ∧ i4.bytes = 1) := ⟨hi4, hz4, hs4, hb4⟩
  have HO : Hid (Rows W aO N L (fun i j => .string (O i j))) := hO
  have HI : Hid (Rows W aI N L (fun i j => .string (I i j))) := hI
  have HB : Hid (Rows W aB N L (fun i j => .bool (B i j))) := hB
  have HV : Hid (Rows W aV N L (fun i j => .string (V i j))) := hV
  have HZ : Hid ((∀ i j, (O i j).size ≤ maxLen) ∧ (∀ i j, (I i j).size ≤ maxLen)) := ⟨zO, zI⟩
  have HOWE : Hid (KeyOwed (foldD (fun i => docF O I V B i (L i)) N) (fun k => (flatL O L N).getD k ByteArray.empty) (fun k => (flatL I L N).getD k ByteArray.empty) (fun k => (flatL V L N).getD k ByteArray.empty) (fun k => (flatL B L N).getD k false) (psum L N)) := howe
  have HW0 : Hid (Below w0.heap.size w0 W) := hW0
  have HLL : Hid (∀ i, L i ≤ 1048576) := hL
  obtain ⟨gb, hgb⟩ : ∃ gb, gb = W.heap.size := ⟨_, rfl⟩
  have HGB : Hid (gb = W.heap.size) := hgb
  have HNN : Hid (psum L N ≤ 1048576) := hn
  clear hi9 hz9 hs9 hb9 hi4 hz4 hs4 hb4 hO hI hB hV zO zI howe hW0 hL hgb hn
  conv => arg 2; whnf
  go_wp2_with fail
  go_loopg [10, 11, 12, 13, 14] N (fun k s10 s11 s12 s13 s14 wr => ∃ i : Nat, k = N - i ∧ i ≤ N ∧ s14 = .int .i64 (i : Nat) ∧ SL wr gb s10 (flatL O L i) ∧ SL wr gb s11 (flatL I L i) ∧ SL wr gb s12 (flatL V L i) ∧ BL wr gb s13 (flatL B L i) ∧ (Dist s10 s11 ∧ Dist s10 s12 ∧ Dist s10 s13 ∧ Dist s11 s12 ∧ Dist s11 s13 ∧ Dist s12 s13) ∧ Below gb W wr)
  case atStart => exact ⟨0, rfl, by omega, rfl, own_nil _ _ _ _, own_nil _ _ _ _, own_nil _ _ _ _, own_nil _ _ _ _, ⟨Dist.nil _, Dist.nil _, Dist.nil _, Dist.nil _, Dist.nil _, Dist.nil _⟩, Below.refl _ _⟩
  case round =>
    obtain ⟨i, hk, hiN, rfl, h10, h11, h12, h13, hd, hbl⟩ := hrel
    have HK : Hid _ := hk
    have L10 : Hid (SL wr gb u10 (flatL O L i)) := h10
    have L11 : Hid (SL wr gb u11 (flatL I L i)) := h11
    have L12 : Hid (SL wr gb u12 (flatL V L i)) := h12
    have L13 : Hid (BL wr gb u13 (flatL B L i)) := h13
    have HD : Hid (Dist u10 u11 ∧ Dist u10 u12 ∧ Dist u10 u13 ∧ Dist u11 u12 ∧ Dist u11 u13 ∧ Dist u12 u13) := hd
    have HBL : Hid (Below gb W wr) := hbl
    clear hk h10 h11 h12 h13 hd hbl
    by_cases hi : i < N
    · have hiI : (i : Int) < (N : Int) := by omega
      have hpi : psum L i + L i ≤ 1048576 := by have h1 := psum_mono L (show i + 1 ≤ N by omega); have h2 := HNN.out; simp only [psum] at h1; omega
      obtain ⟨gO, AO, kO, hrO⟩ := HO.out.at hi
      obtain ⟨gI, AI, kI, hrI⟩ := HI.out.at hi
      obtain ⟨gB, AB, kB, hrB⟩ := HB.out.at hi
      obtain ⟨gV, AV, kV, hrV⟩ := HV.out.at hi
      have RO : Hid (∀ wx, Below gb W wx → RowAt wx aO N i (L i) (fun j => .string (O i j)) gO AO kO) := fun wx hx => hrO wx (by rw [← HGB.out]; exact hx)
      have RI : Hid (∀ wx, Below gb W wx → RowAt wx aI N i (L i) (fun j => .string (I i j)) gI AI kI) := fun wx hx => hrI wx (by rw [← HGB.out]; exact hx)
      have RB : Hid (∀ wx, Below gb W wx → RowAt wx aB N i (L i) (fun j => .bool (B i j)) gB AB kB) := fun wx hx => hrB wx (by rw [← HGB.out]; exact hx)
      have RV : Hid (∀ wx, Below gb W wx → RowAt wx aV N i (L i) (fun j => .string (V i j)) gV AV kV) := fun wx hx => hrV wx (by rw [← HGB.out]; exact hx)
      clear hrO hrI hrB hrV
      obtain rfl := (RO.out wr HBL.out).addr
      obtain rfl := (RI.out wr HBL.out).addr
      obtain rfl := (RB.out wr HBL.out).addr
      obtain rfl := (RV.out wr HBL.out).addr
      have cO0 := (RO.out wr HBL.out).cell
      go_wp2_with fail
      clear cO0
      go_loopg [10, 11, 12, 13, 15] (L i) (fun k s10 s11 s12 s13 s15 wx => ∃ j : Nat, k = L i - j ∧ j ≤ L i ∧ s15 = .int .i64 (j : Nat) ∧ SL wx gb s10 (flatL O L i ++ rowT O i j) ∧ SL wx gb s11 (flatL I L i ++ rowT I i j) ∧ SL wx gb s12 (flatL V L i ++ rowT V i j) ∧ BL wx gb s13 (flatL B L i ++ rowT B i j) ∧ (Dist s10 s11 ∧ Dist s10 s12 ∧ Dist s10 s13 ∧ Dist s11 s12 ∧ Dist s11 s13 ∧ Dist s12 s13) ∧ Below gb W wx)
      case atStart => exact ⟨0, rfl, by omega, rfl, by simpa [rowT] using L10.out, by simpa [rowT] using L11.out, by simpa [rowT] using L12.out, by simpa [rowT] using L13.out, HD.out, HBL.out⟩
      case round =>
        obtain ⟨j, hk2, hjL, rfl, k10, k11, k12, k13, kd, kbl⟩ := hrel
        have HK2 : Hid _ := hk2
        have M10 : Hid (SL wr gb u10 (flatL O L i ++ rowT O i j)) := k10
        have M11 : Hid (SL wr gb u11 (flatL I L i ++ rowT I i j)) := k11
        have M12 : Hid (SL wr gb u12 (flatL V L i ++ rowT V i j)) := k12
        have M13 : Hid (BL wr gb u13 (flatL B L i ++ rowT B i j)) := k13
        have KD : Hid (Dist u10 u11 ∧ Dist u10 u12 ∧ Dist u10 u13 ∧ Dist u11 u12 ∧ Dist u11 u13 ∧ Dist u12 u13) := kd
        have KB : Hid (Below gb W wr) := kbl
        have hgw : gb ≤ wr.heap.size := by have := kbl.size; have := HGB.out; omega
        clear hk2 k10 k11 k12 k13 kd kbl L10 L11 L12 L13 HD
        have rO := RO.out wr KB.out
        have cO1 := rO.cell
        by_cases hj : j < L i
        · have hjI : (j : Int) < (L i : Int) := by omega
          obtain ⟨ro, rfl⟩ : ∃ r, AO = some r := by cases AO with | none => exact absurd (rO.zero rfl) (by omega) | some r => exact ⟨r, rfl⟩
          obtain ⟨ri, rfl⟩ : ∃ r, AI = some r := by cases AI with | none => exact absurd ((RI.out wr KB.out).zero rfl) (by omega) | some r => exact ⟨r, rfl⟩
          obtain ⟨rb, rfl⟩ : ∃ r, AB = some r := by cases AB with | none => exact absurd ((RB.out wr KB.out).zero rfl) (by omega) | some r => exact ⟨r, rfl⟩
          obtain ⟨rv, rfl⟩ : ∃ r, AV = some r := by cases AV with | none => exact absurd ((RV.out wr KB.out).zero rfl) (by omega) | some r => exact ⟨r, rfl⟩
          simp only [Option.map_some] at cO1
          have cO2 := rO.elem ro rfl j hj
          have hpb : psum L i + j + 1 ≤ 1048576 := by omega
          clear rO
          go_upto_region 25 with (first | (at_builtin; refine wpList_append_own_at _ rfl _ _ 25 rfl gb 9 i9 (.string ByteArray.empty) 1 16 Try.underlying25 HI9.out.1 HI9.out.2.1 HI9.out.2.2.1 HI9.out.2.2.2 rfl (by decide) _ (flatL O L i ++ rowT O i j).length ((flatL O L i ++ rowT O i j).map Value.string) rfl ?ax0 ⟨wr.heap.size, 0, none⟩ 1 1 [Value.string (O i j)] rfl rfl ?bx0 ?cx0 ?dx0 ?ex0 ?fx0 ?_))
          case ax0 => exact World.ownsRow.alloc M10.out _
          case bx0 => exact cell_one_new wr _ _
          case cx0 => first | exact str_one _ | rfl
          case dx0 => rw [fr_len]; unfold maxLen; omega
          case ex0 => rw [fr_len]; omega
          case fx0 => first | omega | (rw [World.size_alloc']; omega)
          intro v1 w5 hown hgr _ hloc
          have gg := app_grown hgr
          have z0 : wr.heap.size ≤ w5.heap.size := gg.size
          have N10 : Hid (SL w5 gb v1 (flatL O L i ++ rowT O i (j + 1))) := by rw [rowT_succ, ← List.append_assoc]; exact str_fix hown
          have K11_0 : Hid (SL w5 gb u11 (flatL I L i ++ rowT I i j)) := own_keep M11.out gg ((KD.out.1).symm)
          have D11_10_0 : Hid (Dist u11 v1) := ((KD.out.1).symm).app M11.out hloc (by simp)
          have K12_0 : Hid (SL w5 gb u12 (flatL V L i ++ rowT V i j)) := own_keep M12.out gg ((KD.out.2.1).symm)
          have D12_10_0 : Hid (Dist u12 v1) := ((KD.out.2.1).symm).app M12.out hloc (by simp)
          have K13_0 : Hid (BL w5 gb u13 (flatL B L i ++ rowT B i j)) := own_keep M13.out gg ((KD.out.2.2.1).symm)
          have D13_10_0 : Hid (Dist u13 v1) := ((KD.out.2.2.1).symm).app M13.out hloc (by simp)
          have B0 : Hid (Below gb W w5) := app_below KB.out M10.out gg (Nat.le_refl _) (by omega)
          clear hown hgr hloc gg cO1 cO2
          have rIx := RI.out w5 B0.out
          have cI1 := rIx.cell
          simp only [Option.map_some] at cI1
          have cI2 := rIx.elem ri rfl j hj
          clear rIx
          go_upto_region 26 with (first | (at_builtin; refine wpList_append_own_at _ rfl _ _ 25 rfl gb 9 i9 (.string ByteArray.empty) 1 16 Try.underlying25 HI9.out.1 HI9.out.2.1 HI9.out.2.2.1 HI9.out.2.2.2 rfl (by decide) _ (flatL I L i ++ rowT I i j).length ((flatL I L i ++ rowT I i j).map Value.string) rfl ?ax1 ⟨w5.heap.size, 0, none⟩ 1 1 [Value.string (I i j)] rfl rfl ?bx1 ?cx1 ?dx1 ?ex1 ?fx1 ?_))
          case ax1 => exact World.ownsRow.alloc K11_0.out _
          case bx1 => exact cell_one_new w5 _ _
          case cx1 => first | exact str_one _ | rfl
          case dx1 => rw [fr_len]; unfold maxLen; omega
          case ex1 => rw [fr_len]; omega
          case fx1 => first | omega | (rw [World.size_alloc']; omega)
          intro v2 w6 hown hgr _ hloc
          have gg := app_grown hgr
          have z1 : w5.heap.size ≤ w6.heap.size := gg.size
          have N11 : Hid (SL w6 gb v2 (flatL I L i ++ rowT I i (j + 1))) := by rw [rowT_succ, ← List.append_assoc]; exact str_fix hown
          have K10_1 : Hid (SL w6 gb v1 (flatL O L i ++ rowT O i (j + 1))) := own_keep N10.out gg (D11_10_0.out.symm)
          have D10_11_1 : Hid (Dist v1 v2) := (D11_10_0.out.symm).app N10.out hloc (by simp)
          have K12_1 : Hid (SL w6 gb u12 (flatL V L i ++ rowT V i j)) := own_keep K12_0.out gg ((KD.out.2.2.2.1).symm)
          have D12_11_1 : Hid (Dist u12 v2) := ((KD.out.2.2.2.1).symm).app K12_0.out hloc (by simp)
          have K13_1 : Hid (BL w6 gb u13 (flatL B L i ++ rowT B i j)) := own_keep K13_0.out gg ((KD.out.2.2.2.2.1).symm)
          have D13_11_1 : Hid (Dist u13 v2) := ((KD.out.2.2.2.2.1).symm).app K13_0.out hloc (by simp)
          have B1 : Hid (Below gb W w6) := app_below B0.out K11_0.out gg (Nat.le_refl _) (by omega)
          clear hown hgr hloc gg cI1 cI2
          have rVx := RV.out w6 B1.out
          have cV1 := rVx.cell
          simp only [Option.map_some] at cV1
          have cV2 := rVx.elem rv rfl j hj
          clear rVx
          go_upto_region 27 with (first | (at_builtin; refine wpList_append_own_at _ rfl _ _ 25 rfl gb 9 i9 (.string ByteArray.empty) 1 16 Try.underlying25 HI9.out.1 HI9.out.2.1 HI9.out.2.2.1 HI9.out.2.2.2 rfl (by decide) _ (flatL V L i ++ rowT V i j).length ((flatL V L i ++ rowT V i j).map Value.string) rfl ?ax2 ⟨w6.heap.size, 0, none⟩ 1 1 [Value.string (V i j)] rfl rfl ?bx2 ?cx2 ?dx2 ?ex2 ?fx2 ?_))
          case ax2 => exact World.ownsRow.alloc K12_1.out _
          case bx2 => exact cell_one_new w6 _ _
          case cx2 => first | exact str_one _ | rfl
          case dx2 => rw [fr_len]; unfold maxLen; omega
          case ex2 => rw [fr_len]; omega
          case fx2 => first | omega | (rw [World.size_alloc']; omega)
          intro v3 w7 hown hgr _ hloc
          have gg := app_grown hgr
          have z2 : w6.heap.size ≤ w7.heap.size := gg.size
          have N12 : Hid (SL w7 gb v3 (flatL V L i ++ rowT V i (j + 1))) := by rw [rowT_succ, ← List.append_assoc]; exact str_fix hown
          have K10_2 : Hid (SL w7 gb v1 (flatL O L i ++ rowT O i (j + 1))) := own_keep K10_1.out gg (D12_10_0.out.symm)
          have D10_12_2 : Hid (Dist v1 v3) := (D12_10_0.out.symm).app K10_1.out hloc (by simp)
          have K11_2 : Hid (SL w7 gb v2 (flatL I L i ++ rowT I i (j + 1))) := own_keep N11.out gg (D12_11_1.out.symm)
          have D11_12_2 : Hid (Dist v2 v3) := (D12_11_1.out.symm).app N11.out hloc (by simp)
          have K13_2 : Hid (BL w7 gb u13 (flatL B L i ++ rowT B i j)) := own_keep K13_1.out gg ((KD.out.2.2.2.2.2).symm)
          have D13_12_2 : Hid (Dist u13 v3) := ((KD.out.2.2.2.2.2).symm).app K13_1.out hloc (by simp)
          have B2 : Hid (Below gb W w7) := app_below B1.out K12_1.out gg (Nat.le_refl _) (by omega)
          clear hown hgr hloc gg cV1 cV2
          have rBx := RB.out w7 B2.out
          have cB1 := rBx.cell
          simp only [Option.map_some] at cB1
          have cB2 := rBx.elem rb rfl j hj
          clear rBx
          go_upto_region 23 with (first | (at_builtin; refine wpList_append_own_at _ rfl _ _ 30 rfl gb 4 i4 (.bool false) 1 1 Try.underlying30 HI4.out.1 HI4.out.2.1 HI4.out.2.2.1 HI4.out.2.2.2 rfl (by decide) _ (flatL B L i ++ rowT B i j).length ((flatL B L i ++ rowT B i j).map Value.bool) rfl ?ax3 ⟨w7.heap.size, 0, none⟩ 1 1 [Value.bool (B i j)] rfl rfl ?bx3 ?cx3 ?dx3 ?ex3 ?fx3 ?_))
          case ax3 => exact World.ownsRow.alloc K13_2.out _
          case bx3 => exact cell_one_new w7 _ _
          case cx3 => first | exact bool_one _ | rfl
          case dx3 => rw [fr_len]; unfold maxLen; omega
          case ex3 => rw [fr_len]; omega
          case fx3 => first | omega | (rw [World.size_alloc']; omega)
          intro v4 w8 hown hgr _ hloc
          have gg := app_grown hgr
          have z3 : w7.heap.size ≤ w8.heap.size := gg.size
          have N13 : Hid (BL w8 gb v4 (flatL B L i ++ rowT B i (j + 1))) := by rw [rowT_succ, ← List.append_assoc]; exact bool_fix hown
          have K10_3 : Hid (SL w8 gb v1 (flatL O L i ++ rowT O i (j + 1))) := own_keep K10_2.out gg (D13_10_0.out.symm)
          have D10_13_3 : Hid (Dist v1 v4) := (D13_10_0.out.symm).app K10_2.out hloc (by simp)
          have K11_3 : Hid (SL w8 gb v2 (flatL I L i ++ rowT I i (j + 1))) := own_keep K11_2.out gg (D13_11_1.out.symm)
          have D11_13_3 : Hid (Dist v2 v4) := (D13_11_1.out.symm).app K11_2.out hloc (by simp)
          have K12_3 : Hid (SL w8 gb v3 (flatL V L i ++ rowT V i (j + 1))) := own_keep N12.out gg (D13_12_2.out.symm)
          have D12_13_3 : Hid (Dist v3 v4) := (D13_12_2.out.symm).app N12.out hloc (by simp)
          have B3 : Hid (Below gb W w8) := app_below B2.out K13_2.out gg (Nat.le_refl _) (by omega)
          clear hown hgr hloc gg cB1 cB2
          go_wp2_with fail
          go_roundg (L i - (j + 1))
          case measure => have := HK2.out; omega
          case rel => exact ⟨j + 1, by omega, by omega, by go_num, K10_3.out, K11_3.out, K12_3.out, N13.out, ⟨D10_11_1.out, D10_12_2.out, D10_13_3.out, D11_12_2.out, D11_13_3.out, D12_13_3.out⟩, B3.out⟩
        · have hjI : ¬ (j : Int) < (L i : Int) := by omega
          obtain rfl : j = L i := by omega
          clear rO
          go_wp2_with fail
          go_roundg (N - (i + 1))
          case measure => have := HK.out; omega
          case rel => exact ⟨i + 1, by omega, by omega, by go_num, M10.out, M11.out, M12.out, M13.out, KD.out, KB.out⟩
    · have hiI : ¬ (i : Int) < (N : Int) := by omega
      obtain rfl : i = N := by omega
      obtain ⟨aF, cF, rfl, hF⟩ := SL.strs L10.out
      obtain ⟨aG, cG, rfl, hG⟩ := SL.strs L11.out
      obtain ⟨aH, cH, rfl, hH⟩ := SL.strs L12.out
      obtain ⟨aE, cE, rfl, hE⟩ := BL.bools L13.out
      rw [flat_len] at hF hG hH hE
      simp only [flat_len]
      have HST : Hid _ := And.intro hF (And.intro hG (And.intro hH hE))
      have HB3 : Hid (Below W.heap.size W wr) := by rw [← HGB.out]; exact HBL.out
      clear hF hG hH hE
      go_upto_if 129 with fail
      go_step
      go_step
      go_step
      go_step
      have hZ := HZ.out
      have hST := HST.out
      have hfs : ∀ (X : Nat → Nat → ByteArray), (∀ i j, (X i j).size ≤ maxLen) → ∀ k, ((flatL X L i).getD k ByteArray.empty).size ≤ maxLen := fun X hX => getD_size (fun x hx => flat_all hX i x hx)
      exact lwK w0 wr (Below.trans' HW0.out HB3.out HW0.out.size) aO aI aB aV aF aG aH aE (psum L i) i cO cI cB cV cF cG cH cE O I V B _ _ _ _ L hN HLL.out HNN.out (by have := HNN.out; unfold maxLen; omega) (HO.out.below HB3.out) (HI.out.below HB3.out) (HB.out.below HB3.out) (HV.out.below HB3.out) hZ.1 hZ.2
        hST.1 hST.2.1 hST.2.2.1 hST.2.2.2 (hfs O hZ.1) (hfs I hZ.2) HOWE.out
end Go.Proofs.Qxb6604637a
