/- The law: the keys' groups. -/
import Derived.Test.Qxb6604637aLwL
namespace Go.Proofs.Qxb6604637a
open Go.RowKit
set_option linter.unusedVariables false

/-- what the plain law owes the walk of the keys -/
def KeyOwed (F : Doc) (fo fi fv : Nat → ByteArray) (fb : Nat → Bool) (n : Nat) : Prop :=
  ∀ (m : Nat) (P : Nat → ByteArray), (∀ k k', k < k' → k' < m → blt (P k) (P k') = true) → (∀ x, x < n → ∃ k, k < m ∧ P k = fo x) → (∀ k, k < m → ∃ x, x < n ∧ P k = fo x) → CardD F m ∧ MemOwed F fo fi fv (live fb n) P m

theorem eqk_none {A : Nat → ByteArray} {i j : Nat} (h : A i = A j) : eqk (lessB A none) i j := by
  refine ⟨?_, ?_⟩
  · rw [lessB_eq h]
  · rw [lessB_eq h.symm]
theorem lessB_none {A : Nat → ByteArray} {i j : Nat} (h : lessB A none i j = true) : blt (A i) (A j) = true := by
  rcases Classical.em (A i = A j) with e | e
  · rw [lessB_eq e] at h; cases h
  · rwa [lessB_ne e] at h
theorem map_getD {PL : List (Nat × Nat)} {f : Nat × Nat → ByteArray} {k : Nat} (h : k < PL.length) : (PL.map f).getD k ByteArray.empty = f PL[k] := by
  rw [List.getD_eq_getElem?_getD, List.getElem?_map, List.getElem?_eq_getElem h]
  rfl

set_option maxHeartbeats 16000000 in
set_option maxRecDepth 100000 in
theorem lwK (w0 W : World) (hW0 : Below w0.heap.size w0 W) (aO aI aB aV aF aG aH aE : Option Addr) (n N cO cI cB cV cF cG cH cE : Nat) (O I V : Nat → Nat → ByteArray) (B : Nat → Nat → Bool) (fo fi fv : Nat → ByteArray) (fb : Nat → Bool) (L : Nat → Nat)
    (hN : N ≤ 1048576) (hL : ∀ i, L i ≤ 1048576) (hn : n ≤ 1048576) (hs : psum L N < maxLen)
    (hO : Rows W aO N L (fun i j => .string (O i j))) (hI : Rows W aI N L (fun i j => .string (I i j))) (hB : Rows W aB N L (fun i j => .bool (B i j))) (hV : Rows W aV N L (fun i j => .string (V i j)))
    (zO : ∀ i j, (O i j).size ≤ maxLen) (zI : ∀ i j, (I i j).size ≤ maxLen)
    (hF : Strs W aF n fo) (hG : Strs W aG n fi) (hH : Strs W aH n fv) (hE : Bools W aE n fb) (zF : ∀ k, (fo k).size ≤ maxLen) (zG : ∀ k, (fi k).size ≤ maxLen)
    (howe : KeyOwed (foldD (fun i => docF O I V B i (L i)) N) fo fi fv fb n)
    {u4 u5 u6 u7 u8 u9 u14 u15 u16 u17 u18 u19 u20 u21 u22 u23 u24 u25 u26 u27 u28 u29 u30 u31 u32 u33 u34 u35 u36 u37 u38 u39 u40 u41 u42 u43 u44 u45 u46 u47 u48 u49 u50 u51 u52 u53 u54 u55 u56 u57 u58 u59 u60 u61 u62 u63 u64 u65 u66 u67 u68 u69 u70 u71 u72 u73 u74 u75 u76 u77 u78 u79 u80 u81 u82 u83 u84 u85 u86 u87 u88 u89 u90 u91 u92 u93 u94 u95 u96 u97 u98 u99 u100 u101 u102 u103 u104 u105 u106 u107 u108 u109 u110 u111 u112 u113 u114 u115 u116 u117 u118 u119 u120 u121 u122 u123 u124 u125 u126 u127 u128 u129 u130 u131 u132 u133 u134 u135 u136 u137 u138 u139 u140 u141 u142 u143 u144 u145 u146 u147 u148 u149 u150 u151 u152 u153 u154 u155 u156 u157 u158 u159 u160 u161 u162 u163 u164 u165 u166 u167 u168 u169 u170 u171 u172 u173 u174 u175 u176 u177 u178 u179 u180 u181 u182 u183 u184 u185 u186 u187 u188 u189 u190 u191 u192 u193 u194 u195 u196 u197 u198 u199 u200 u201 u202 u203 u204 u205 u206 u207 u208 u209 u210 u211 u212 u213 u214 u215 u216 u217 u218 u219 u220 u221 u222 u223 u224 u225 u226 u227 u228 u229 u230 u231 u232 u233 u234 u235 u236 u237 u238 u239 u240 u241 u242 u243 u244 u245 u246 u247 u248 u249 u250 u251 u252 u253 u254 u255 u256 u257 u258 u259 u260 u261 u262 u263 u264 u265 u266 u267 u268 u269 u270 u271 u272 u273 u274 u275 u276 u277 u278 u279 u280 u281 u282 u283 u284 u285 u286 u287 u288 u289 u290 u291 u292 u293 u294 u295 u296 u297 u298 u299 u300 u301 u302 u303 u304 u305 u306 u307 u308 u309 u310 u311 u312 u313 u314 u315 u316 u317 u318 u319 u320 u321 u322 u323 u324 u325 u326 u327 u328 u329 u330 u331 u332 u333 u334 u335 u336 u337 u338 u339 u340 u341 u342 u343 u344 u345 u346 u347 u348 u349 u350 u351 u352 u353 u354 u355 u356 u357 u358 u359 u360 u361 u362 u363 u364 u365 u366 u367 u368 u369 u370 u371 u372 u373 u374 u375 u376 u377 u378 u379 u380 u381 u382 u383 u384 u385 u386 u387 u388 u389 u390 u391 u392 u393 u394 u395 u396 u397 u398 u399 u400 u401 u402 u403 u404 u405 u406 u407 u408 u409 u410 u411 u412 u413 u414 u415 u416 u417 u418 u419 u420 u421 u422 u423 u424 u425 u426 u427 u428 u429 u430 u431 u432 u433 u434 u435 u436 u437 u438 u439 u440 u441 u442 u443 u444 u445 u446 u447 u448 u449 u450 : Value} :
    Code.wp Try.prog (tailC 12 (Try.f4.body.getD .skip)) (bodyPost Try.prog Try.f4 (LwPost w0)) ⟨#[.slice aO N cO, .slice aI N cI, .slice aB N cB, .slice aV N cV, u4, u5, u6, u7, u8, u9, .slice aF n cF, .slice aG n cG, .slice aH n cH, .slice aE n cE, u14, u15, u16, u17, u18, u19, u20, u21, u22, u23, u24, u25, u26, u27, u28, u29, u30, u31, u32, u33, u34, u35, u36, u37, u38, u39, u40, u41, u42, u43, u44, u45, u46, u47, u48, u49, u50, u51, u52, u53, u54, u55, u56, u57, u58, u59, u60, u61, u62, u63, u64, u65, u66, u67, u68, u69, u70, u71, u72, u73, u74, u75, u76, u77, u78, u79, u80, u81, u82, u83, u84, u85, u86, u87, u88, u89, u90, u91, u92, u93, u94, u95, u96, u97, u98, u99, u100, u101, u102, u103, u104, u105, u106, u107, u108, u109, u110, u111, u112, u113, u114, u115, u116, u117, u118, u119, u120, u121, u122, u123, u124, u125, u126, u127, u128, u129, u130, u131, u132, u133, u134, u135, u136, u137, u138, u139, u140, u141, u142, u143, u144, u145, u146, u147, u148, u149, u150, u151, u152, u153, u154, u155, u156, u157, u158, u159, u160, u161, u162, u163, u164, u165, u166, u167, u168, u169, u170, u171, u172, u173, u174, u175, u176, u177, u178, u179, u180, u181, u182, u183, u184, u185, u186, u187, u188, u189, u190, u191, u192, u193, u194, u195, u196, u197, u198, u199, u200, u201, u202, u203, u204, u205, u206, u207, u208, u209, u210, u211, u212, u213, u214, u215, u216, u217, u218, u219, u220, u221, u222, u223, u224, u225, u226, u227, u228, u229, u230, u231, u232, u233, u234, u235, u236, u237, u238, u239, u240, u241, u242, u243, u244, u245, u246, u247, u248, u249, u250, u251, u252, u253, u254, u255, u256, u257, u258, u259, u260, u261, u262, u263, u264, u265, u266, u267, u268, u269, u270, u271, u272, u273, u274, u275, u276, u277, u278, u279, u280, u281, u282, u283, u284, u285, u286, u287, u288, u289, u290, u291, u292, u293, u294, u295, u296, u297, u298, u299, u300, u301, u302, u303, u304, u305, u306, u307, u308, u309, u310, u311, u312, u313, u314, u315, u316, u317, u318, u319, u320, u321, u322, u323, u324, u325, u326, u327, u328, u329, u330, u331, u332, u333, u334, u335, u336, u337, u338, u339, u340, u341, u342, u343, u344, u345, u346, u347, u348, u349, u350, u351, u352, u353, u354, u355, u356, u357, u358, u359, u360, u361, u362, u363, u364, u365, u366, u367, u368, u369, u370, u371, u372, u373, u374, u375, u376, u377, u378, u379, u380, u381, u382, u383, u384, u385, u386, u387, u388, u389, u390, u391, u392, u393, u394, u395, u396, u397, u398, u399, u400, u401, u402, u403, u404, u405, u406, u407, u408, u409, u410, u411, u412, u413, u414, u415, u416, u417, u418, u419, u420, u421, u422, u423, u424, u425, u426, u427, u428, u429, u430, u431, u432, u433, u434, u435, u436, u437, u438, u439, u440, u441, u442, u443, u444, u445, u446, u447, u448, u449, u450], []⟩ W := by
  obtain ⟨i9, hi9, hz9, hs9, hb9⟩ := info_parts Try.info9c
  have HI9 : Hid (Try.prog.info? 9 = some i9 ∧ i9.zero = some (.string ByteArray.empty) ∧ i9.size = 1 ∧ i9.bytes = 16) := ⟨hi9, hz9, hs9, hb9⟩
  have HR1 : Hid (Rows W aO N L (fun i j => .string (O i j)) ∧ Rows W aI N L (fun i j => .string (I i j)) ∧ Rows W aB N L (fun i j => .bool (B i j)) ∧ Rows W aV N L (fun i j => .string (V i j))) := ⟨hO, hI, hB, hV⟩
  have HZ : Hid ((∀ i j, (O i j).size ≤ maxLen) ∧ (∀ i j, (I i j).size ≤ maxLen) ∧ (∀ k, (fo k).size ≤ maxLen) ∧ (∀ k, (fi k).size ≤ maxLen)) := ⟨zO, zI, zF, zG⟩
  have HST : Hid (Strs W aF n fo ∧ Strs W aG n fi ∧ Strs W aH n fv ∧ Bools W aE n fb) := ⟨hF, hG, hH, hE⟩
  have HOWE : Hid (KeyOwed (foldD (fun i => docF O I V B i (L i)) N) fo fi fv fb n) := howe
  have HW0 : Hid (Below w0.heap.size w0 W) := hW0
  have HLL : Hid (∀ i, L i ≤ 1048576) := hL
  clear hi9 hz9 hs9 hb9 hO hI hB hV zO zI hF hG hH hE zF zG howe hW0 hL
  conv => arg 2; whnf
  go_wp2_with fail
  refine (zzIota_any W n hn).mono ?_
  rintro e W1 ⟨rfl, hc1, hb1⟩
  have HC1 : Hid (∀ k, k < n → W1.cell? ⟨W.heap.size, k, none⟩ = some (.int .i64 (k : Nat))) := hc1
  have HB1 : Hid (Below W.heap.size W W1) := hb1
  clear hc1 hb1
  go_wp2_with fail
  have HSRT := sort_any n hn fo none (.slice aF n cF) (.slice none 0 0) n W1 (some ⟨W.heap.size, 0, none⟩) n (List.range n) (by simp) (by simp) (by simp) (.inr ⟨W.heap.size, 0, rfl, fun k hk => by
      rw [List.length_range] at hk
      rw [Nat.zero_add, HC1.out k hk]
      simp [List.getD_eq_getElem?_getD, List.getElem?_range hk]⟩) (fun hne => by
    have hn0 : 0 < n := by
      apply Nat.pos_of_ne_zero
      rintro rfl
      exact hne rfl
    have hST := HST.out.1.below HB1.out
    rcases hST with e | ⟨gF, rfl, hF⟩
    · omega
    · exact ⟨gF, cF, none, 0, 0, rfl, rfl, hF, rfl, fun h => absurd rfl h⟩) List.pairwise_lt_range (fun x hx => List.mem_range.1 hx)
  rw [List.length_range] at HSRT
  refine HSRT.mono ?_
  rintro e W2 ⟨gS, cS, S, he, hgS, hcS, hSl, hS, hSp, hSs, hSb⟩
  rw [List.length_range] at he hcS hSl hS
  subst he
  obtain ⟨gb, hgb⟩ : ∃ gb, gb = W2.heap.size := ⟨_, rfl⟩
  have HGB : Hid (gb = W2.heap.size) := hgb
  have HSP : Hid (S.Perm (List.range n)) := hSp
  have HSS : Hid (S.Pairwise (prec (lessB fo none))) := hSs
  have HB2 : Hid (Below W.heap.size W W2) := Below.trans' HB1.out hSb HB1.out.size
  have HSL : Hid (S.length = n) := hSl
  have GS : Hid (∀ wx, Below gb W2 wx → ∀ i, i < n → wx.cell? ⟨gS, i, none⟩ = some (.int .i64 (S.getD i 0 : Nat))) := fun wx hx i hi => by
    have h1 := hS i hi
    rw [hx.cell (p := ⟨gS, i, none⟩) (by have h2 : gS < W2.heap.size := block_lt_of_cell h1; show gS < gb; omega)]
    exact h1
  have HSN : Hid (∀ k, k < n → S.getD k 0 < n) := fun k hk => by
    have h1 : S.getD k 0 ∈ List.range n := by rw [getD_eq (by omega)]; exact hSp.mem_iff.1 (List.getElem_mem _)
    exact List.mem_range.1 h1
  obtain ⟨gF, hgF⟩ : ∃ g : Nat, 0 < n → aF = some ⟨g, 0, none⟩ ∧ ∀ wx, Below gb W2 wx → ∀ i, i < n → wx.cell? ⟨g, i, none⟩ = some (.string (fo i)) := by
    obtain ⟨g, hg⟩ := strs_get (HST.out.1.below HB2.out)
    refine ⟨g, fun h0 => ⟨(hg h0).1, fun wx hx i hi => ?_⟩⟩
    have h1 := (hg h0).2 i hi
    rw [hx.cell (p := ⟨g, i, none⟩) (by have h2 : g < W2.heap.size := block_lt_of_cell h1; show g < gb; omega)]
    exact h1
  have GF : Hid _ := hgF
  clear hS hSp hSs hSb hSl HSRT hgF HC1 HB1 hgb
  go_wp2_with fail
  go_loopg [17, 18] n (fun k s17 s18 wr => ∃ (s : Nat) (PL : List (Nat × Nat)), k = n - s ∧ s ≤ n ∧ s18 = .int .i64 (s : Nat) ∧ PL.length ≤ s ∧ GI (lessB fo none) S s PL ∧ SL wr gb s17 (PL.map (fun p => fo p.1)) ∧ Below gb W2 wr)
  case atStart => exact ⟨0, [], rfl, by omega, rfl, by simp, GI.start _ _, own_nil _ _ _ _, Below.refl _ _⟩
  case round =>
    obtain ⟨s, PL, hk, hsl, rfl, hPL, hgi, hlO, hbl⟩ := hrel
    have HK : Hid _ := hk
    have HGI : Hid (GI (lessB fo none) S s PL) := hgi
    have HLO : Hid (SL wr gb u17 (PL.map (fun p => fo p.1))) := hlO
    have HBL : Hid (Below gb W2 wr) := hbl
    clear hk hgi hlO hbl
    by_cases hs1 : s < n
    · have hsI : (s : Int) < (n : Int) := by omega
      have hx0n := HSN.out s hs1
      obtain ⟨rfl, hcF⟩ := GF.out (by omega)
      have CF : Hid (∀ wx, Below gb W2 wx → ∀ i, i < n → wx.cell? ⟨gF, i, none⟩ = some (.string (fo i))) := hcF
      clear hcF
      obtain ⟨x0, hx0⟩ : ∃ x, x = S.getD s 0 := ⟨_, rfl⟩
      rw [← hx0] at hx0n
      have cS0 := GS.out wr HBL.out s hs1
      rw [← hx0] at cS0
      have HX0 : Hid (x0 = S.getD s 0) := hx0
      have hx0I : (x0 : Int) < (n : Int) := by omega
      have cF0 := CF.out wr HBL.out x0 hx0n
      clear hx0
      go_wp2_with fail
      go_loopg [19] (n - s) (fun k s19 wx => ∃ e : Nat, k = n - e ∧ s ≤ e ∧ e < n ∧ s19 = .int .i64 (e : Nat) ∧ (∀ t, s ≤ t → t ≤ e → fo (S.getD t 0) = fo x0) ∧ ∃ d, wx = wr.drewN d)
      case atStart =>
        refine ⟨s, rfl, Nat.le_refl _, hs1, rfl, fun t h1 h2 => ?_, 0, rfl⟩
        obtain rfl : t = s := by omega
        rw [← HX0.out]
      case round =>
        obtain ⟨e, hk2, hse, hel, rfl, hrun, d, rfl⟩ := hrel
        have HK2 : Hid _ := hk2
        have HRUN : Hid (∀ t, s ≤ t → t ≤ e → fo (S.getD t 0) = fo x0) := hrun
        clear hk2 hrun
        by_cases he1 : e + 1 < n
        · have he1I : (e : Int) + 1 < (n : Int) := by omega
          have hx1n := HSN.out (e + 1) he1
          obtain ⟨x1, hx1⟩ : ∃ x, x = S.getD (e + 1) 0 := ⟨_, rfl⟩
          have cS1 := GS.out _ HBL.out (e + 1) he1
          rw [← hx1] at cS1 hx1n
          have HX1 : Hid (x1 = S.getD (e + 1) 0) := hx1
          have hx1I : (x1 : Int) < (n : Int) := by omega
          have cF1 := CF.out _ HBL.out x1 hx1n
          have de : decide ((e : Int) + 1 < (n : Int)) = true := by rw [decide_eq_true_iff]; omega
          clear hx1
          rcases Classical.em (fo x1 = fo x0) with q1 | q1
          · have e1 : ((fo x1).toList == (fo x0).toList) = true := beq_str.2 q1
            have Q12 : Hid (fo x1 = fo x0) := q1
            clear q1
            go_wp2_with fail
            go_quiet (fail)
            go_wp2_with fail
            go_roundg (n - (e + 1))
            case measure => have := HK2.out; omega
            case rel =>
              refine ⟨e + 1, by omega, by omega, he1, by go_num, fun t h1 h2 => ?_, ?_⟩
              case refine_2 => first | exact ⟨_, rfl⟩ | exact drew2 _ _ _
              by_cases h3 : t = e + 1
              · subst h3; rw [← HX1.out]; exact Q12.out
              · exact HRUN.out t h1 (by omega)
          · have e1 : ((fo x1).toList == (fo x0).toList) = false := beq_str_false.2 q1
            have HST2 : Hid (e + 1 = n ∨ fo (S.getD (e + 1) 0) ≠ fo x0) := .inr (by rw [← HX1.out]; exact q1)
            clear q1
            go_wp2_with fail
            go_quiet (fail)
            obtain ⟨w5, hw5⟩ : ∃ w5, w5 = (wr.drewN d).drewN nq := ⟨_, rfl⟩
            have D5 : Hid (∃ d, w5 = wr.drewN d) := by rw [hw5]; first | exact ⟨_, rfl⟩ | exact drew2 _ _ _
            have B5 : Hid (Below gb W2 w5) := by obtain ⟨d, hd⟩ := D5.out; rw [hd]; exact below_drewN HBL.out d
            have kO : Hid (SL w5 gb u17 (PL.map (fun p => fo p.1))) := by obtain ⟨d, hd⟩ := D5.out; rw [hd]; exact HLO.out
            rw [← hw5]
            clear hw5
            have c5 := CF.out _ B5.out x0 hx0n
            have c6 := GS.out _ B5.out s hs1
            rw [← HX0.out] at c6
            go_upto_region 36 with (first | (at_builtin; refine wpList_append_own_at _ rfl _ _ 25 rfl gb 9 i9 (.string ByteArray.empty) 1 16 Try.underlying25 HI9.out.1 HI9.out.2.1 HI9.out.2.2.1 HI9.out.2.2.2 rfl (by decide) _ (PL.map (fun p => fo p.1)).length ((PL.map (fun p => fo p.1)).map Value.string) rfl ?oaA ⟨w5.heap.size, 0, none⟩ 1 1 [.string (fo x0)] rfl rfl ?obA ?ocA ?odA ?oeA ?ofA ?_))
            case oaA => exact World.ownsRow.alloc kO.out _
            case obA => exact cell_one_new w5 _ _
            case ocA => first | exact str_one _ | rfl
            case odA => unfold maxLen; first | omega | (rw [List.length_map]; omega)
            case oeA => first | omega | (rw [List.length_map]; omega)
            case ofA => have := B5.out.size; have := HGB.out; first | omega | (rw [World.size_alloc']; omega)
            intro v1 W7 hown7 hg7 _ hloc7
            have g7 := app_grown hg7
            have s7 : Hid (SL W7 gb v1 (PL.map (fun p => fo p.1) ++ [fo x0])) := by first | exact SL.snoc hown7 | exact SL.snocM hown7
            have B7 : Hid (Below gb W2 W7) := app_below B5.out kO.out g7 (Nat.le_refl _) (by have := B5.out.size; have := HGB.out; omega)
            clear hown7 hg7 hloc7 g7
            go_wp2_with fail
            go_roundg (n - (e + 1))
            case measure => have := HK.out; omega
            case rel =>
              have hsl2 := HSL.out
              have hst : GI (lessB fo none) S (e + 1) (PL ++ [(S.getD s 0, S.getD e 0)]) := by
                refine HGI.out.step (lessB_sw _ _) HSS.out hse (by omega) (fun t h1 h2 => ?_) ?_
                · have h3 := HRUN.out t h1 h2
                  rw [HX0.out] at h3
                  exact eqk_none h3.symm
                · rcases HST2.out with h3 | h3
                  · exact .inl (by omega)
                  · refine .inr (fun h4 => ?_)
                    rw [HX0.out] at h3
                    exact h3 (lessB_A h4.1 h4.2).symm
              rw [← HX0.out] at hst
              refine ⟨e + 1, PL ++ [(x0, S.getD e 0)], by omega, by omega, by go_num, by simp; omega, hst, ?_, B7.out⟩
              rw [List.map_append]; exact s7.out
        · have de : decide ((e : Int) + 1 < (n : Int)) = false := by rw [decide_eq_false_iff_not]; omega
          have HST2 : Hid (e + 1 = n ∨ fo (S.getD (e + 1) 0) ≠ fo x0) := .inl (by omega)
          go_wp2_with fail
          go_quiet (fail)
          obtain ⟨w5, hw5⟩ : ∃ w5, w5 = (wr.drewN d).drewN nq := ⟨_, rfl⟩
          have D5 : Hid (∃ d, w5 = wr.drewN d) := by rw [hw5]; first | exact ⟨_, rfl⟩ | exact drew2 _ _ _
          have B5 : Hid (Below gb W2 w5) := by obtain ⟨d, hd⟩ := D5.out; rw [hd]; exact below_drewN HBL.out d
          have kO : Hid (SL w5 gb u17 (PL.map (fun p => fo p.1))) := by obtain ⟨d, hd⟩ := D5.out; rw [hd]; exact HLO.out
          rw [← hw5]
          clear hw5
          have c5 := CF.out _ B5.out x0 hx0n
          have c6 := GS.out _ B5.out s hs1
          rw [← HX0.out] at c6
          go_upto_region 36 with (first | (at_builtin; refine wpList_append_own_at _ rfl _ _ 25 rfl gb 9 i9 (.string ByteArray.empty) 1 16 Try.underlying25 HI9.out.1 HI9.out.2.1 HI9.out.2.2.1 HI9.out.2.2.2 rfl (by decide) _ (PL.map (fun p => fo p.1)).length ((PL.map (fun p => fo p.1)).map Value.string) rfl ?oaB ⟨w5.heap.size, 0, none⟩ 1 1 [.string (fo x0)] rfl rfl ?obB ?ocB ?odB ?oeB ?ofB ?_))
          case oaB => exact World.ownsRow.alloc kO.out _
          case obB => exact cell_one_new w5 _ _
          case ocB => first | exact str_one _ | rfl
          case odB => unfold maxLen; first | omega | (rw [List.length_map]; omega)
          case oeB => first | omega | (rw [List.length_map]; omega)
          case ofB => have := B5.out.size; have := HGB.out; first | omega | (rw [World.size_alloc']; omega)
          intro v1 W7 hown7 hg7 _ hloc7
          have g7 := app_grown hg7
          have s7 : Hid (SL W7 gb v1 (PL.map (fun p => fo p.1) ++ [fo x0])) := by first | exact SL.snoc hown7 | exact SL.snocM hown7
          have B7 : Hid (Below gb W2 W7) := app_below B5.out kO.out g7 (Nat.le_refl _) (by have := B5.out.size; have := HGB.out; omega)
          clear hown7 hg7 hloc7 g7
          go_wp2_with fail
          go_roundg (n - (e + 1))
          case measure => have := HK.out; omega
          case rel =>
            have hsl2 := HSL.out
            have hst : GI (lessB fo none) S (e + 1) (PL ++ [(S.getD s 0, S.getD e 0)]) := by
              refine HGI.out.step (lessB_sw _ _) HSS.out hse (by omega) (fun t h1 h2 => ?_) ?_
              · have h3 := HRUN.out t h1 h2
                rw [HX0.out] at h3
                exact eqk_none h3.symm
              · rcases HST2.out with h3 | h3
                · exact .inl (by omega)
                · refine .inr (fun h4 => ?_)
                  rw [HX0.out] at h3
                  exact h3 (lessB_A h4.1 h4.2).symm
            rw [← HX0.out] at hst
            refine ⟨e + 1, PL ++ [(x0, S.getD e 0)], by omega, by omega, by go_num, by simp; omega, hst, ?_, B7.out⟩
            rw [List.map_append]; exact s7.out
    · have hsI : ¬ (s : Int) < (n : Int) := by omega
      obtain rfl : s = n := by omega
      obtain ⟨aP, cP, rfl, hP⟩ := SL.strs HLO.out
      rw [List.length_map] at hP
      simp only [List.length_map]
      have HPP : Hid (Strs wr aP PL.length (fun k => (PL.map (fun p => fo p.1)).getD k ByteArray.empty)) := hP
      have hgs : gb = W2.heap.size := HGB.out
      have HB3 : Hid (Below W.heap.size W wr) := Below.trans' HB2.out HBL.out (by have := HB2.out.size; omega)
      clear hP hgs
      have hgi2 : GI (lessB fo none) S S.length PL := by have := HGI.out; rwa [HSL.out]
      have hs1 : ∀ k k', k < k' → k' < PL.length → blt ((PL.map (fun p => fo p.1)).getD k ByteArray.empty) ((PL.map (fun p => fo p.1)).getD k' ByteArray.empty) = true := fun k k' h1 h2 => by
        rw [map_getD (by omega), map_getD h2]
        exact lessB_none (List.pairwise_iff_getElem.1 hgi2.srt k k' (by omega) h2 h1)
      have hs2 : ∀ x, x < s → ∃ k, k < PL.length ∧ (PL.map (fun p => fo p.1)).getD k ByteArray.empty = fo x := fun x hx => by
        obtain ⟨p, hp, he⟩ := hgi2.all (HSP.out.mem_iff.2 (List.mem_range.2 hx))
        obtain ⟨k, hk, rfl⟩ := List.mem_iff_getElem.1 hp
        exact ⟨k, hk, by rw [map_getD hk]; exact lessB_A he.1 he.2⟩
      have hs3 : ∀ k, k < PL.length → ∃ x, x < s ∧ (PL.map (fun p => fo p.1)).getD k ByteArray.empty = fo x := fun k hk => by
        have h1 := (hgi2.of (List.getElem_mem hk)).1
        exact ⟨_, List.mem_range.1 (HSP.out.mem_iff.1 h1), map_getD hk⟩
      obtain ⟨ho1, ho2⟩ := HOWE.out PL.length _ hs1 hs2 hs3
      have HF1 : Hid _ := And.intro hs1 (And.intro hs2 (And.intro ho1 ho2))
      clear hs1 hs2 hs3 ho1 ho2 hgi2
      go_upto_if 189 with fail
      go_step
      go_step
      go_step
      go_step
      have hR1 := HR1.out
      have hZ := HZ.out
      have hST := HST.out
      exact lwL w0 wr (Below.trans' HW0.out HB3.out HW0.out.size) aO aI aB aV aP aF aG aH aE PL.length s N cO cI cB cV cP cF cG cH cE O I V B _ fo fi fv fb L hN HLL.out (by omega) hn hs (hR1.1.below HB3.out) (hR1.2.1.below HB3.out) (hR1.2.2.1.below HB3.out) (hR1.2.2.2.below HB3.out) hZ.1 hZ.2.1
        HPP.out (getD_size (fun x hx => by obtain ⟨p, _, rfl⟩ := List.mem_map.1 hx; exact hZ.2.2.1 _)) (hST.1.below HB3.out) (hST.2.1.below HB3.out) (hST.2.2.1.below HB3.out) (hST.2.2.2.below HB3.out) hZ.2.2.1 hZ.2.2.2 HF1.out.1 HF1.out.2.1 HF1.out.2.2.1 HF1.out.2.2.2
end Go.Proofs.Qxb6604637a
