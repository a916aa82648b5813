/- The law: the members' groups. -/
import Derived.Test.Qxb6604637aAp
namespace Go.Proofs.Qxb6604637a
open Go.RowKit
set_option linter.unusedVariables false

theorem getD_size {Xs : List ByteArray} (h : ∀ x ∈ Xs, x.size ≤ maxLen) (k : Nat) : (Xs.getD k ByteArray.empty).size ≤ maxLen := by
  rw [List.getD_eq_getElem?_getD]
  cases e : Xs[k]? with
  | none => simp [maxLen]
  | some x => exact h x (List.mem_of_getElem? e)

theorem inc_ge {X : List Nat} (h : X.Pairwise (· < ·)) : ∀ (i : Nat) (hi : i < X.length), i ≤ X[i]
  | 0, _ => Nat.zero_le _
  | i + 1, hi => by
    have h1 := inc_ge h i (by omega)
    have h2 := List.pairwise_iff_getElem.1 h i (i + 1) (by omega) hi (by omega)
    omega
theorem inc_len {X : List Nat} {n : Nat} (h : X.Pairwise (· < ·)) (hn : ∀ x ∈ X, x < n) : X.length ≤ n := by
  by_cases e : X.length = 0
  · omega
  · have h1 := inc_ge h (X.length - 1) (by omega)
    have h2 := hn _ (List.getElem_mem (show X.length - 1 < X.length by omega))
    omega

theorem own_off {w w' : World} {base : Nat} {v : Value} {Xs : List ByteArray} {b : Nat} (h : SL w base v Xs) (hg : w.grownBy w' (some b)) (hb : b < base) : SL w' base v Xs := by
  refine World.ownsRow.kept h hg ?_
  cases e : v.ownBlock with
  | none => exact .inl rfl
  | some c => exact .inr (fun h2 => by cases h2; have := (own_lt h e).2; omega)
theorem SL.snoc {w : World} {base : Nat} {v : Value} {Xs : List ByteArray} {x : ByteArray} (h : w.ownsRow base 9 1 v (Xs.length + 1) (Xs.map Value.string ++ [.string x])) : SL w base v (Xs ++ [x]) := by
  unfold SL
  rw [List.length_append, List.map_append]
  exact h
theorem SL.snocM {α : Type} {w : World} {base : Nat} {v : Value} {PL : List α} {f : α → ByteArray} {x : ByteArray} (h : w.ownsRow base 9 1 v (PL.length + 1) (PL.map (Value.string ∘ f) ++ [.string x])) : SL w base v (PL.map f ++ [x]) := by
  unfold SL
  rw [List.length_append, List.map_append, List.length_map, List.map_map]
  exact h
theorem str_one (x : ByteArray) : ∀ u ∈ [Value.string x], u.oneCell' = true := by
  intro u hu
  rw [List.mem_singleton.1 hu]
  rfl
theorem World.size_alloc' (w : World) (o : Obj) : (w.alloc o).heap.size = w.heap.size + 1 := by simp
theorem eqk_of {A B : Nat → ByteArray} {i j : Nat} (h1 : A i = A j) (h2 : B i = B j) : eqk (lessB A (some B)) i j := by
  refine ⟨?_, ?_⟩
  · rw [lessB_eq h1]; show blt (B i) (B j) = false; rw [h2]; exact blt_irr _
  · rw [lessB_eq h1.symm]; show blt (B j) (B i) = false; rw [h2]; exact blt_irr _
theorem eqk_key {A B : Nat → ByteArray} {i j : Nat} (h : eqk (lessB A (some B)) i j) : A i = A j ∧ B i = B j := ⟨lessB_A h.1 h.2, lessB_B h.1 h.2⟩

theorem Rows.below {w w' : World} {a : Option Addr} {N : Nat} {L : Nat → Nat} {V : Nat → Nat → Value} (h : Rows w a N L V) (hB : Below w.heap.size w w') : Rows w' a N L V := by
  obtain ⟨g, A, C, h0, h⟩ := h
  refine ⟨g, A, C, h0, fun i hi => ?_⟩
  obtain ⟨h1, h2, h3⟩ := h i hi
  refine ⟨by rw [hB.cell (block_lt_of_cell h1)]; exact h1, h2, fun r hr j hj => ?_⟩
  rw [hB.cell (block_lt_of_cell (h3 r hr j hj))]; exact h3 r hr j hj

/-- what the plain law owes the walk of the members -/
def MemOwed (F : Doc) (fo fi fv : Nat → ByteArray) (X : List Nat) (P : Nat → ByteArray) (m : Nat) : Prop :=
  ∀ (S : List Nat) (PL : List (Nat × Nat)) (cn : Nat → Nat), S.Perm X → S.Pairwise (prec (lessB fo (some fi))) → GI (lessB fo (some fi)) S S.length PL → (∀ k, k < m → cn k = (PL.filter (fun p => (fo p.1).toList == (P k).toList)).length) →
    (∀ k, k < m → ∃ g, F (sk (P k)) = some g ∧ Card g (cn k)) ∧ ∀ k, k < PL.length → ∃ g, F (sk ((PL.map (fun p => fo p.1)).getD k ByteArray.empty)) = some g ∧ g (sk ((PL.map (fun p => fi p.1)).getD k ByteArray.empty)) = some (is ((PL.map (fun p => fv p.2)).getD k ByteArray.empty))

theorem strs_get {w : World} {a : Option Addr} {n : Nat} {P : Nat → ByteArray} (h : Strs w a n P) : ∃ g : Nat, 0 < n → a = some ⟨g, 0, none⟩ ∧ ∀ k, k < n → w.cell? ⟨g, k, none⟩ = some (.string (P k)) := by
  rcases h with rfl | ⟨g, rfl, h⟩
  · exact ⟨0, fun h => absurd h (by omega)⟩
  · exact ⟨g, fun _ => ⟨rfl, h⟩⟩

set_option maxHeartbeats 16000000 in
set_option maxRecDepth 100000 in
theorem lwM (w0 W : World) (hW0 : Below w0.heap.size w0 W) (aO aI aB aV aP aF aG aH aL : Option Addr) (m n N cO cI cB cV cP cF cG cH cL : Nat) (X : List Nat) (O I V : Nat → Nat → ByteArray) (B : Nat → Nat → Bool) (P fo fi fv : Nat → ByteArray) (L : Nat → Nat)
    (hN : N ≤ 1048576) (hL : ∀ i, L i ≤ 1048576) (hm : m ≤ 1048576) (hn : n ≤ 1048576) (hs : psum L N < maxLen)
    (hO : Rows W aO N L (fun i j => .string (O i j))) (hI : Rows W aI N L (fun i j => .string (I i j))) (hB : Rows W aB N L (fun i j => .bool (B i j))) (hV : Rows W aV N L (fun i j => .string (V i j)))
    (zO : ∀ i j, (O i j).size ≤ maxLen) (zI : ∀ i j, (I i j).size ≤ maxLen)
    (hP : Strs W aP m P) (zP : ∀ k, (P k).size ≤ maxLen) (hF : Strs W aF n fo) (hG : Strs W aG n fi) (hH : Strs W aH n fv) (zF : ∀ k, (fo k).size ≤ maxLen) (zG : ∀ k, (fi k).size ≤ maxLen)
    (hX : IdxAt W aL X) (hXc : X.length ≤ cL) (hXs : X.Pairwise (· < ·)) (hXn : ∀ x ∈ X, x < n)
    (hPs : ∀ k k', k < k' → k' < m → blt (P k) (P k') = true) (hPm : ∀ x ∈ X, ∃ k, k < m ∧ P k = fo x)
    (hc : CardD (foldD (fun i => docF O I V B i (L i)) N) m) (howe : MemOwed (foldD (fun i => docF O I V B i (L i)) N) fo fi fv X P m)
    {u4 u5 u6 u7 u8 u9 u13 u14 u15 u16 u18 u19 u21 u22 u23 u24 u25 u26 u27 u28 u29 u30 u31 u32 u33 u34 u35 u36 u37 u38 u39 u40 u41 u42 u43 u44 u45 u46 u47 u48 u49 u50 u51 u52 u53 u54 u55 u56 u57 u58 u59 u60 u61 u62 u63 u64 u65 u66 u67 u68 u69 u70 u71 u72 u73 u74 u75 u76 u77 u78 u79 u80 u81 u82 u83 u84 u85 u86 u87 u88 u89 u90 u91 u92 u93 u94 u95 u96 u97 u98 u99 u100 u101 u102 u103 u104 u105 u106 u107 u108 u109 u110 u111 u112 u113 u114 u115 u116 u117 u118 u119 u120 u121 u122 u123 u124 u125 u126 u127 u128 u129 u130 u131 u132 u133 u134 u135 u136 u137 u138 u139 u140 u141 u142 u143 u144 u145 u146 u147 u148 u149 u150 u151 u152 u153 u154 u155 u156 u157 u158 u159 u160 u161 u162 u163 u164 u165 u166 u167 u168 u169 u170 u171 u172 u173 u174 u175 u176 u177 u178 u179 u180 u181 u182 u183 u184 u185 u186 u187 u188 u189 u190 u191 u192 u193 u194 u195 u196 u197 u198 u199 u200 u201 u202 u203 u204 u205 u206 u207 u208 u209 u210 u211 u212 u213 u214 u215 u216 u217 u218 u219 u220 u221 u222 u223 u224 u225 u226 u227 u228 u229 u230 u231 u232 u233 u234 u235 u236 u237 u238 u239 u240 u241 u242 u243 u244 u245 u246 u247 u248 u249 u250 u251 u252 u253 u254 u255 u256 u257 u258 u259 u260 u261 u262 u263 u264 u265 u266 u267 u268 u269 u270 u271 u272 u273 u274 u275 u276 u277 u278 u279 u280 u281 u282 u283 u284 u285 u286 u287 u288 u289 u290 u291 u292 u293 u294 u295 u296 u297 u298 u299 u300 u301 u302 u303 u304 u305 u306 u307 u308 u309 u310 u311 u312 u313 u314 u315 u316 u317 u318 u319 u320 u321 u322 u323 u324 u325 u326 u327 u328 u329 u330 u331 u332 u333 u334 u335 u336 u337 u338 u339 u340 u341 u342 u343 u344 u345 u346 u347 u348 u349 u350 u351 u352 u353 u354 u355 u356 u357 u358 u359 u360 u361 u362 u363 u364 u365 u366 u367 u368 u369 u370 u371 u372 u373 u374 u375 u376 u377 u378 u379 u380 u381 u382 u383 u384 u385 u386 u387 u388 u389 u390 u391 u392 u393 u394 u395 u396 u397 u398 u399 u400 u401 u402 u403 u404 u405 u406 u407 u408 u409 u410 u411 u412 u413 u414 u415 u416 u417 u418 u419 u420 u421 u422 u423 u424 u425 u426 u427 u428 u429 u430 u431 u432 u433 u434 u435 u436 u437 u438 u439 u440 u441 u442 u443 u444 u445 u446 u447 u448 u449 u450 : Value} :
    Code.wp Try.prog (tailC 18 (Try.f4.body.getD .skip)) (bodyPost Try.prog Try.f4 (LwPost w0)) ⟨#[.slice aO N cO, .slice aI N cI, .slice aB N cB, .slice aV N cV, u4, u5, u6, u7, u8, u9, .slice aF n cF, .slice aG n cG, .slice aH n cH, u13, u14, u15, u16, .slice aP m cP, u18, u19, .slice aL X.length cL, u21, u22, u23, u24, u25, u26, u27, u28, u29, u30, u31, u32, u33, u34, u35, u36, u37, u38, u39, u40, u41, u42, u43, u44, u45, u46, u47, u48, u49, u50, u51, u52, u53, u54, u55, u56, u57, u58, u59, u60, u61, u62, u63, u64, u65, u66, u67, u68, u69, u70, u71, u72, u73, u74, u75, u76, u77, u78, u79, u80, u81, u82, u83, u84, u85, u86, u87, u88, u89, u90, u91, u92, u93, u94, u95, u96, u97, u98, u99, u100, u101, u102, u103, u104, u105, u106, u107, u108, u109, u110, u111, u112, u113, u114, u115, u116, u117, u118, u119, u120, u121, u122, u123, u124, u125, u126, u127, u128, u129, u130, u131, u132, u133, u134, u135, u136, u137, u138, u139, u140, u141, u142, u143, u144, u145, u146, u147, u148, u149, u150, u151, u152, u153, u154, u155, u156, u157, u158, u159, u160, u161, u162, u163, u164, u165, u166, u167, u168, u169, u170, u171, u172, u173, u174, u175, u176, u177, u178, u179, u180, u181, u182, u183, u184, u185, u186, u187, u188, u189, u190, u191, u192, u193, u194, u195, u196, u197, u198, u199, u200, u201, u202, u203, u204, u205, u206, u207, u208, u209, u210, u211, u212, u213, u214, u215, u216, u217, u218, u219, u220, u221, u222, u223, u224, u225, u226, u227, u228, u229, u230, u231, u232, u233, u234, u235, u236, u237, u238, u239, u240, u241, u242, u243, u244, u245, u246, u247, u248, u249, u250, u251, u252, u253, u254, u255, u256, u257, u258, u259, u260, u261, u262, u263, u264, u265, u266, u267, u268, u269, u270, u271, u272, u273, u274, u275, u276, u277, u278, u279, u280, u281, u282, u283, u284, u285, u286, u287, u288, u289, u290, u291, u292, u293, u294, u295, u296, u297, u298, u299, u300, u301, u302, u303, u304, u305, u306, u307, u308, u309, u310, u311, u312, u313, u314, u315, u316, u317, u318, u319, u320, u321, u322, u323, u324, u325, u326, u327, u328, u329, u330, u331, u332, u333, u334, u335, u336, u337, u338, u339, u340, u341, u342, u343, u344, u345, u346, u347, u348, u349, u350, u351, u352, u353, u354, u355, u356, u357, u358, u359, u360, u361, u362, u363, u364, u365, u366, u367, u368, u369, u370, u371, u372, u373, u374, u375, u376, u377, u378, u379, u380, u381, u382, u383, u384, u385, u386, u387, u388, u389, u390, u391, u392, u393, u394, u395, u396, u397, u398, u399, u400, u401, u402, u403, u404, u405, u406, u407, u408, u409, u410, u411, u412, u413, u414, u415, u416, u417, u418, u419, u420, u421, u422, u423, u424, u425, u426, u427, u428, u429, u430, u431, u432, u433, u434, u435, u436, u437, u438, u439, u440, u441, u442, u443, u444, u445, u446, u447, u448, u449, u450], []⟩ W := by
  obtain ⟨i9, hi9, hz9, hs9, hb9⟩ := info_parts Try.info9c
  have HI9 : Hid (Try.prog.info? 9 = some i9 ∧ i9.zero = some (.string ByteArray.empty) ∧ i9.size = 1 ∧ i9.bytes = 16) := ⟨hi9, hz9, hs9, hb9⟩
  clear hi9 hz9 hs9 hb9
  have hXl : X.length ≤ n := inc_len hXs hXn
  have HSRT := sort_any n hn fo (some fi) (.slice aF n cF) (.slice aG n cG) X.length W aL cL X (Nat.le_refl _) hXc hXl hX (fun hne => by
    have hn0 : 0 < n := by
      cases X with
      | nil => exact absurd rfl hne
      | cons x r => have := hXn x (by simp); omega
    rcases hF with e | ⟨gF, rfl, hF⟩
    · omega
    · rcases hG with e | ⟨gG, rfl, hG⟩
      · omega
      · exact ⟨gF, cF, _, n, cG, rfl, rfl, hF, ⟨gG, rfl, hG⟩, fun _ => rfl⟩) hXs hXn
  have HE : Hid (Calls Try.prog 9 #[.slice aL X.length cL, .slice aF n cF, .slice aG n cG] W (SmPost W (lessB fo (some fi)) X)) := HSRT
  have HR1 : Hid (Rows W aO N L (fun i j => .string (O i j)) ∧ Rows W aI N L (fun i j => .string (I i j)) ∧ Rows W aB N L (fun i j => .bool (B i j)) ∧ Rows W aV N L (fun i j => .string (V i j))) := ⟨hO, hI, hB, hV⟩
  have HZ : Hid ((∀ i j, (O i j).size ≤ maxLen) ∧ (∀ i j, (I i j).size ≤ maxLen) ∧ (∀ k, (P k).size ≤ maxLen) ∧ (∀ k, (fo k).size ≤ maxLen) ∧ (∀ k, (fi k).size ≤ maxLen)) := ⟨zO, zI, zP, zF, zG⟩
  have HP : Hid (Strs W aP m P) := hP
  have HF : Hid (Strs W aF n fo) := hF
  have HG : Hid (Strs W aG n fi) := hG
  have HH : Hid (Strs W aH n fv) := hH
  have HXN : Hid (∀ x ∈ X, x < n) := hXn
  have HPS : Hid (∀ k k', k < k' → k' < m → blt (P k) (P k') = true) := hPs
  have HPM : Hid (∀ x ∈ X, ∃ k, k < m ∧ P k = fo x) := hPm
  have HC : Hid (CardD (foldD (fun i => docF O I V B i (L i)) N) m) := hc
  have HOWE : Hid (MemOwed (foldD (fun i => docF O I V B i (L i)) N) fo fi fv X P m) := howe
  have HW0 : Hid (Below w0.heap.size w0 W) := hW0
  have HLL : Hid (∀ i, L i ≤ 1048576) := hL
  have hmk := fun w => run_make_row' (P := Try.prog) 27 3 (.int .i64 0) 8 Try.underlying27 Try.info3c rfl .i64 .i64 m (by omega) (by omega) w
  obtain ⟨l, hl⟩ : ∃ l, l = X.length := ⟨_, rfl⟩
  have HLE : Hid (l = X.length) := hl
  rw [← hl] at HE hXl ⊢
  clear HSRT hO hI hB hV zO zI hP zP hF hG hH zF zG hX hXc hXs hXn hPs hPm hc howe hW0 hL hl
  conv => arg 2; whnf
  go_wp2_with fail
  refine Calls.mono HE.out ?_
  rintro e W1 ⟨gS, cS, S, he, hgS, hcS, hSl, hS, hSp, hSs, hSb⟩
  rw [← HLE.out] at he hcS hSl hS
  subst he
  have HS : Hid (∀ k, k < l → W1.cell? ⟨gS, k, none⟩ = some (.int .i64 (S.getD k 0 : Nat))) := hS
  have HSP : Hid (S.Perm X) := hSp
  have HSS : Hid (S.Pairwise (prec (lessB fo (some fi)))) := hSs
  have HSB : Hid (Below W.heap.size W W1) := hSb
  have HSL : Hid (S.length = l) := hSl
  have HSN : Hid (∀ k, k < l → S.getD k 0 < n ∧ ∃ j, j < m ∧ P j = fo (S.getD k 0)) := fun k hk => by
    have h1 : S.getD k 0 ∈ X := by rw [getD_eq (by omega)]; exact hSp.mem_iff.1 (List.getElem_mem _)
    exact ⟨HXN.out _ h1, HPM.out _ h1⟩
  clear hS hSp hSs hSb hSl
  go_upto_region 45 with fail
  obtain ⟨gc, hgc⟩ : ∃ gc, gc = W1.heap.size := ⟨_, rfl⟩
  have R1 : Hid (rowPre (W1.alloc (Obj.cells (madeCells #[.int .i64 0] m) 3)) gc 3 m (fun k => .int .i64 ((fun _ => 0 : Nat → Nat) k : Nat))) := by subst hgc; exact (rowPre_made _ _ _ _)
  have B1 : Hid (Below gc W1 (W1.alloc (Obj.cells (madeCells #[.int .i64 0] m) 3))) := by subst hgc; exact (Below.refl _ _).alloc (Nat.le_refl _) _
  have hz1 : (W1.alloc (Obj.cells (madeCells #[.int .i64 0] m) 3)).heap.size = gc + 1 := by subst hgc; simp
  rw [← hgc]
  have HGC : Hid (gc = W1.heap.size) := hgc
  clear hgc
  generalize W1.alloc (Obj.cells (madeCells #[.int .i64 0] m) 3) = W2 at *
  -- what is read
  have hrd : ∀ {a : Option Addr} {k : Nat} {Y : Nat → ByteArray}, Strs W a k Y → ∃ g : Nat, 0 < k → a = some ⟨g, 0, none⟩ ∧ ∀ wx, Below gc W1 wx → ∀ i, i < k → wx.cell? ⟨g, i, none⟩ = some (.string (Y i)) := by
    intro a k Y h
    obtain ⟨g, hg⟩ := strs_get (h.below HSB.out)
    refine ⟨g, fun h0 => ⟨(hg h0).1, fun wx hx i hi => ?_⟩⟩
    have h1 := (hg h0).2 i hi
    rw [hx.cell (p := ⟨g, i, none⟩) (by have h2 : g < W1.heap.size := block_lt_of_cell h1; have := HGC.out; show g < gc; omega)]
    exact h1
  obtain ⟨gF, hgF⟩ := hrd HF.out
  obtain ⟨gG, hgG⟩ := hrd HG.out
  obtain ⟨gH, hgH⟩ := hrd HH.out
  obtain ⟨gP, hgP⟩ := hrd HP.out
  have GF : Hid _ := hgF
  have GG : Hid _ := hgG
  have GH : Hid _ := hgH
  have GP : Hid _ := hgP
  have GS : Hid (∀ wx, Below gc W1 wx → ∀ i, i < l → wx.cell? ⟨gS, i, none⟩ = some (.int .i64 (S.getD i 0 : Nat))) := fun wx hx i hi => by
    have h1 := HS.out i hi
    rw [hx.cell (p := ⟨gS, i, none⟩) (by have h2 : gS < W1.heap.size := block_lt_of_cell h1; have := HGC.out; show gS < gc; omega)]
    exact h1
  clear hrd hgF hgG hgH hgP hz1
  go_wp2_with fail
  go_loopg [18, 24, 25, 26, 27] l (fun k s18 s24 s25 s26 s27 wr => ∃ (s g : Nat) (PL : List (Nat × Nat)) (cn : Nat → Nat), k = l - s ∧ s ≤ l ∧ s18 = .int .i64 (s : Nat) ∧ s27 = .int .i64 (g : Nat) ∧ PL.length ≤ s ∧ GI (lessB fo (some fi)) S s PL ∧ MC fo P m S s g PL cn ∧ rowPre wr gc 3 m (fun k => .int .i64 (cn k : Nat)) ∧
    SL wr (gc + 1) s24 (PL.map (fun p => fo p.1)) ∧ SL wr (gc + 1) s25 (PL.map (fun p => fi p.1)) ∧ SL wr (gc + 1) s26 (PL.map (fun p => fv p.2)) ∧ Dist s24 s25 ∧ Dist s24 s26 ∧ Dist s25 s26 ∧ Below gc W1 wr)
  case atStart => exact ⟨0, 0, [], fun _ => 0, rfl, by omega, rfl, rfl, by simp, GI.start _ _, MC.start _ _ _ _, R1.out, own_nil _ _ _ _, own_nil _ _ _ _, own_nil _ _ _ _, Dist.nil _, Dist.nil _, Dist.nil _, B1.out⟩
  case round =>
    obtain ⟨s, g, PL, cn, hk, hsl, rfl, rfl, hPL, hgi, hmc, hrow, hlO, hlI, hlV, hd1, hd2, hd3, hbl⟩ := hrel
    have HK : Hid _ := hk
    have HGI : Hid (GI (lessB fo (some fi)) S s PL) := hgi
    have HMC : Hid (MC fo P m S s g PL cn) := hmc
    have HRW : Hid (rowPre wr gc 3 m (fun k => .int .i64 (cn k : Nat))) := hrow
    have HLO : Hid (SL wr (gc + 1) u24 (PL.map (fun p => fo p.1))) := hlO
    have HLI : Hid (SL wr (gc + 1) u25 (PL.map (fun p => fi p.1))) := hlI
    have HLV : Hid (SL wr (gc + 1) u26 (PL.map (fun p => fv p.2))) := hlV
    have HD : Hid (Dist u24 u25 ∧ Dist u24 u26 ∧ Dist u25 u26) := ⟨hd1, hd2, hd3⟩
    have HBL : Hid (Below gc W1 wr) := hbl
    clear hk hgi hmc hrow hlO hlI hlV hd1 hd2 hd3 hbl R1 B1
    by_cases hs1 : s < l
    · have hsI : (s : Int) < (l : Int) := by omega
      obtain ⟨hx0n, ks, hksm, hks⟩ := HSN.out s hs1
      obtain ⟨rfl, hcF⟩ := GF.out (by omega)
      obtain ⟨rfl, hcG⟩ := GG.out (by omega)
      obtain ⟨rfl, hcH⟩ := GH.out (by omega)
      obtain ⟨rfl, hcP⟩ := GP.out (by omega)
      have CF : Hid (∀ wx, Below gc W1 wx → ∀ i, i < n → wx.cell? ⟨gF, i, none⟩ = some (.string (fo i))) := hcF
      have CG : Hid (∀ wx, Below gc W1 wx → ∀ i, i < n → wx.cell? ⟨gG, i, none⟩ = some (.string (fi i))) := hcG
      have CH : Hid (∀ wx, Below gc W1 wx → ∀ i, i < n → wx.cell? ⟨gH, i, none⟩ = some (.string (fv i))) := hcH
      have CP : Hid (∀ wx, Below gc W1 wx → ∀ i, i < m → wx.cell? ⟨gP, i, none⟩ = some (.string (P i))) := hcP
      clear hcF hcG hcH hcP
      obtain ⟨x0, hx0⟩ : ∃ x, x = S.getD s 0 := ⟨_, rfl⟩
      rw [← hx0] at hx0n hks
      have cS0 := GS.out wr HBL.out s hs1
      rw [← hx0] at cS0
      have HX0 : Hid (x0 = S.getD s 0) := hx0
      have HKS : Hid (P ks = fo x0) := hks
      have hx0I : (x0 : Int) < (n : Int) := by omega
      have cF0 := CF.out wr HBL.out x0 hx0n
      have cG0 := CG.out wr HBL.out x0 hx0n
      clear hx0 hks
      go_wp2_with fail
      go_loopg [28] (l - s) (fun k s28 wx => ∃ e : Nat, k = l - e ∧ s ≤ e ∧ e < l ∧ s28 = .int .i64 (e : Nat) ∧ (∀ t, s ≤ t → t ≤ e → fo (S.getD t 0) = fo x0 ∧ fi (S.getD t 0) = fi x0) ∧ ∃ d, wx = wr.drewN d)
      case atStart =>
        refine ⟨s, rfl, Nat.le_refl _, hs1, rfl, fun t h1 h2 => ?_, 0, rfl⟩
        obtain rfl : t = s := by omega
        rw [← HX0.out]
        exact ⟨rfl, rfl⟩
      case round =>
        obtain ⟨e, hk2, hse, hel, rfl, hrun, d, rfl⟩ := hrel
        have HK2 : Hid _ := hk2
        have HRUN : Hid (∀ t, s ≤ t → t ≤ e → fo (S.getD t 0) = fo x0 ∧ fi (S.getD t 0) = fi x0) := hrun
        clear hk2 hrun
        by_cases he1 : e + 1 < l
        · have he1I : (e : Int) + 1 < (l : Int) := by omega
          obtain ⟨hx1n, _⟩ := HSN.out (e + 1) he1
          obtain ⟨x1, hx1⟩ : ∃ x, x = S.getD (e + 1) 0 := ⟨_, rfl⟩
          have cS1 := GS.out _ HBL.out (e + 1) he1
          rw [← hx1] at cS1 hx1n
          have HX1 : Hid (x1 = S.getD (e + 1) 0) := hx1
          have hx1I : (x1 : Int) < (n : Int) := by omega
          have cF1 := CF.out _ HBL.out x1 hx1n
          have cG1 := CG.out _ HBL.out x1 hx1n
          have de : decide ((e : Int) + 1 < (l : Int)) = true := by rw [decide_eq_true_iff]; omega
          clear hx1
          rcases Classical.em (fo x1 = fo x0) with q1 | q1
          · have e1 : ((fo x1).toList == (fo x0).toList) = true := beq_str.2 q1
            rcases Classical.em (fi x1 = fi x0) with q2 | q2
            · have e2 : ((fi x1).toList == (fi x0).toList) = true := beq_str.2 q2
              have Q12 : Hid (fo x1 = fo x0 ∧ fi x1 = fi x0) := ⟨q1, q2⟩
              clear q1 q2
              go_wp2_with fail
              go_quiet (fail)
              go_wp2_with fail
              go_roundg (l - (e + 1))
              case measure => have := HK2.out; omega
              case rel =>
                refine ⟨e + 1, by omega, by omega, he1, by go_num, fun t h1 h2 => ?_, ?_⟩
                case refine_2 => first | exact ⟨_, rfl⟩ | exact drew2 _ _ _
                by_cases h3 : t = e + 1
                · subst h3; rw [← HX1.out]; exact Q12.out
                · exact HRUN.out t h1 (by omega)
            · have e2 : ((fi x1).toList == (fi x0).toList) = false := beq_str_false.2 q2
              have HST : Hid (e + 1 = l ∨ fo (S.getD (e + 1) 0) ≠ fo x0 ∨ fi (S.getD (e + 1) 0) ≠ fi x0) := .inr (.inr (by rw [← HX1.out]; exact q2))
              clear q1 q2
              go_wp2_with fail
              go_quiet (fail)
              have hgks : g ≤ ks := by
                apply Decidable.byContradiction
                intro hlt
                have h1 := HMC.out.gle ks (by omega) s (Nat.le_refl _) (by have := HSL.out; omega)
                rw [← HX0.out, HKS.out, blt_irr] at h1
                cases h1
              go_wp2_with fail
              go_loopg [27] (ks - g) (fun k s27 wx => ∃ g' : Nat, k = ks - g' ∧ g' ≤ ks ∧ s27 = .int .i64 (g' : Nat) ∧ ∃ d, wx = wr.drewN d)
              case atStart => first | exact ⟨g, rfl, hgks, rfl, _, rfl⟩ | exact ⟨g, rfl, hgks, rfl, drew2 _ _ _⟩
              case round =>
                obtain ⟨g', hk3, hgk, rfl, d2, rfl⟩ := hrel
                have HK3 : Hid _ := hk3
                clear hk3
                have hgm : (g' : Int) < (m : Int) := by omega
                have cP0 := CP.out _ HBL.out g' (by omega)
                have dg : decide ((g' : Int) < (m : Int)) = true := by rw [decide_eq_true_iff]; omega
                by_cases hgl : g' < ks
                · have e3 : ((P g').toList == (fo x0).toList) = false := by
                    rw [beq_str_false, ← HKS.out]
                    intro h
                    have h1 := HPS.out g' ks hgl hksm
                    rw [h, blt_irr] at h1
                    cases h1
                  go_wp2_with fail
                  go_roundg (ks - (g' + 1))
                  case measure => have := HK3.out; omega
                  case rel => exact ⟨g' + 1, by omega, by omega, by go_num, _, rfl⟩
                · obtain rfl : g' = ks := by omega
                  have e3 : ((P g').toList == (fo x0).toList) = true := beq_str.2 HKS.out
                  have e4 : ((g' : Int) == (m : Int)) = false := by rw [beq_eq_false_iff_ne]; omega
                  have hcn : cn g' ≤ 1048576 := by
                    rw [HMC.out.cnt g' hksm]
                    exact Nat.le_trans (List.length_filter_le _ _) (by omega)
                  have cc1 := HRW.out.cell hksm
                  have cz1 := HRW.out.frozen g'
                  go_upto_region 58 with fail
                  have S6 : Hid (rowPre ((wr.drewN d2).setCell ⟨gc, g', none⟩ (.int .i64 ((cn g' : Int) + 1))) gc 3 m (fun k => .int .i64 (((if k = g' then cn k + 1 else cn k) : Nat) : Int))) := ((HRW.out.drewN d2).set g' _).congr (fun k _ => by
                    by_cases ek : k = g'
                    · subst ek; simp
                    · simp [ek])
                  have G6 : wr.grownBy ((wr.drewN d2).setCell ⟨gc, g', none⟩ (.int .i64 ((cn g' : Int) + 1))) (some gc) := ⟨rfl, rfl, rfl, by simp [World.setCell], fun k _ hk => Below.heap_setCell _ _ _ _ (fun e => hk (by rw [e]))⟩
                  have hgs : gc + 1 ≤ wr.heap.size := by have := HRW.out.lt; omega
                  have kO : Hid (SL ((wr.drewN d2).setCell ⟨gc, g', none⟩ (.int .i64 ((cn g' : Int) + 1))) (gc + 1) u24 (PL.map (fun p => fo p.1))) := own_off HLO.out G6 (by omega)
                  have kI : Hid (SL ((wr.drewN d2).setCell ⟨gc, g', none⟩ (.int .i64 ((cn g' : Int) + 1))) (gc + 1) u25 (PL.map (fun p => fi p.1))) := own_off HLI.out G6 (by omega)
                  have kV : Hid (SL ((wr.drewN d2).setCell ⟨gc, g', none⟩ (.int .i64 ((cn g' : Int) + 1))) (gc + 1) u26 (PL.map (fun p => fv p.2))) := own_off HLV.out G6 (by omega)
                  have B6 : Hid (Below gc W1 ((wr.drewN d2).setCell ⟨gc, g', none⟩ (.int .i64 ((cn g' : Int) + 1)))) := (below_drewN HBL.out d2).setCell (Nat.le_refl _) _
                  have z6 : gc + 1 ≤ ((wr.drewN d2).setCell ⟨gc, g', none⟩ (.int .i64 ((cn g' : Int) + 1))).heap.size := by simpa [World.setCell] using hgs
                  clear cc1 cz1 G6 hgs
                  generalize (wr.drewN d2).setCell ⟨gc, g', none⟩ (.int .i64 ((cn g' : Int) + 1)) = W6 at *
                  go_upto_region 59 with (first | (at_builtin; refine wpList_append_own_at _ rfl _ _ 25 rfl (gc + 1) 9 i9 (.string ByteArray.empty) 1 16 Try.underlying25 HI9.out.1 HI9.out.2.1 HI9.out.2.2.1 HI9.out.2.2.2 rfl (by decide) _ (PL.map (fun p => fo p.1)).length ((PL.map (fun p => fo p.1)).map Value.string) rfl ?oaA ⟨W6.heap.size, 0, none⟩ 1 1 [.string (fo x0)] rfl rfl ?obA ?ocA ?odA ?oeA ?ofA ?_))
                  case oaA => exact World.ownsRow.alloc kO.out _
                  case obA => exact cell_one_new W6 _ _
                  case ocA => exact str_one _
                  case odA => rw [List.length_map]; unfold maxLen; omega
                  case oeA => rw [List.length_map]; omega
                  case ofA => rw [World.size_alloc']; omega
                  intro v1 W7 hown7 hg7 _ hloc7
                  have s7 : Hid (SL W7 (gc + 1) v1 (PL.map (fun p => fo p.1) ++ [fo x0])) := by first | exact SL.snoc hown7 | exact SL.snocM hown7
                  have g7 := app_grown hg7
                  have z7 : W6.heap.size ≤ W7.heap.size := g7.size
                  have kI7 : Hid (SL W7 (gc + 1) u25 (PL.map (fun p => fi p.1))) := own_keep kI.out g7 HD.out.1.symm
                  have kV7 : Hid (SL W7 (gc + 1) u26 (PL.map (fun p => fv p.2))) := own_keep kV.out g7 HD.out.2.1.symm
                  have d7 : Hid (Dist u25 v1 ∧ Dist u26 v1) := ⟨HD.out.1.symm.app kI.out hloc7 (by simp), HD.out.2.1.symm.app kV.out hloc7 (by simp)⟩
                  have S7 : Hid (rowPre W7 gc 3 m (fun k => .int .i64 (((if k = g' then cn k + 1 else cn k) : Nat) : Int))) := S6.out.of_block (g7.block gc (by omega) (fun e => by have := (own_lt kO.out e.symm).2; omega))
                  have B7 : Hid (Below gc W1 W7) := app_below B6.out kO.out g7 (by omega) (by omega)
                  clear hown7 hg7 hloc7 g7
                  have c7a := GS.out _ B7.out s hs1
                  rw [← HX0.out] at c7a
                  have c7b := CG.out _ B7.out x0 hx0n
                  go_upto_region 60 with (first | (at_builtin; refine wpList_append_own_at _ rfl _ _ 25 rfl (gc + 1) 9 i9 (.string ByteArray.empty) 1 16 Try.underlying25 HI9.out.1 HI9.out.2.1 HI9.out.2.2.1 HI9.out.2.2.2 rfl (by decide) _ (PL.map (fun p => fi p.1)).length ((PL.map (fun p => fi p.1)).map Value.string) rfl ?paA ⟨W7.heap.size, 0, none⟩ 1 1 [.string (fi x0)] rfl rfl ?pbA ?pcA ?pdA ?peA ?pfA ?_))
                  case paA => exact World.ownsRow.alloc kI7.out _
                  case pbA => exact cell_one_new W7 _ _
                  case pcA => exact str_one _
                  case pdA => rw [List.length_map]; unfold maxLen; omega
                  case peA => rw [List.length_map]; omega
                  case pfA => rw [World.size_alloc']; omega
                  intro v2 W8 hown8 hg8 _ hloc8
                  have s8 : Hid (SL W8 (gc + 1) v2 (PL.map (fun p => fi p.1) ++ [fi x0])) := by first | exact SL.snoc hown8 | exact SL.snocM hown8
                  have g8 := app_grown hg8
                  have z8 : W7.heap.size ≤ W8.heap.size := g8.size
                  have kO8 : Hid (SL W8 (gc + 1) v1 (PL.map (fun p => fo p.1) ++ [fo x0])) := own_keep s7.out g8 d7.out.1.symm
                  have kV8 : Hid (SL W8 (gc + 1) u26 (PL.map (fun p => fv p.2))) := own_keep kV7.out g8 HD.out.2.2.symm
                  have d8 : Hid (Dist v1 v2 ∧ Dist u26 v2) := ⟨d7.out.1.symm.app s7.out hloc8 (by simp), HD.out.2.2.symm.app kV7.out hloc8 (by simp)⟩
                  have S8 : Hid (rowPre W8 gc 3 m (fun k => .int .i64 (((if k = g' then cn k + 1 else cn k) : Nat) : Int))) := S7.out.of_block (g8.block gc (by omega) (fun e => by have := (own_lt kI7.out e.symm).2; omega))
                  have B8 : Hid (Below gc W1 W8) := app_below B7.out kI7.out g8 (by omega) (by omega)
                  clear hown8 hg8 hloc8 g8 c7a c7b
                  obtain ⟨xe, hxe⟩ : ∃ x, x = S.getD e 0 := ⟨_, rfl⟩
                  have HXE : Hid (xe = S.getD e 0) := hxe
                  have hxen : xe < n := by rw [hxe]; exact (HSN.out e hel).1
                  have c8a := GS.out _ B8.out e hel
                  rw [← hxe] at c8a
                  have c8b := CH.out _ B8.out xe hxen
                  have hxeI : (xe : Int) < (n : Int) := by omega
                  have helI : (e : Int) < (l : Int) := by omega
                  clear hxe
                  go_upto_region 61 with (first | (at_builtin; refine wpList_append_own_at _ rfl _ _ 25 rfl (gc + 1) 9 i9 (.string ByteArray.empty) 1 16 Try.underlying25 HI9.out.1 HI9.out.2.1 HI9.out.2.2.1 HI9.out.2.2.2 rfl (by decide) _ (PL.map (fun p => fv p.2)).length ((PL.map (fun p => fv p.2)).map Value.string) rfl ?qaA ⟨W8.heap.size, 0, none⟩ 1 1 [.string (fv xe)] rfl rfl ?qbA ?qcA ?qdA ?qeA ?qfA ?_))
                  case qaA => exact World.ownsRow.alloc kV8.out _
                  case qbA => exact cell_one_new W8 _ _
                  case qcA => exact str_one _
                  case qdA => rw [List.length_map]; unfold maxLen; omega
                  case qeA => rw [List.length_map]; omega
                  case qfA => rw [World.size_alloc']; omega
                  intro v3 W9 hown9 hg9 _ hloc9
                  have s9 : Hid (SL W9 (gc + 1) v3 (PL.map (fun p => fv p.2) ++ [fv xe])) := by first | exact SL.snoc hown9 | exact SL.snocM hown9
                  have g9 := app_grown hg9
                  have kO9 : Hid (SL W9 (gc + 1) v1 (PL.map (fun p => fo p.1) ++ [fo x0])) := own_keep kO8.out g9 d7.out.2.symm
                  have kI9 : Hid (SL W9 (gc + 1) v2 (PL.map (fun p => fi p.1) ++ [fi x0])) := own_keep s8.out g9 d8.out.2.symm
                  have d9 : Hid (Dist v1 v2 ∧ Dist v1 v3 ∧ Dist v2 v3) := ⟨d8.out.1, d7.out.2.symm.app kO8.out hloc9 (by simp), d8.out.2.symm.app s8.out hloc9 (by simp)⟩
                  have S9 : Hid (rowPre W9 gc 3 m (fun k => .int .i64 (((if k = g' then cn k + 1 else cn k) : Nat) : Int))) := S8.out.of_block (g9.block gc (by omega) (fun e => by have := (own_lt kV8.out e.symm).2; omega))
                  have B9 : Hid (Below gc W1 W9) := app_below B8.out kV8.out g9 (by omega) (by omega)
                  clear hown9 hg9 hloc9 g9 c8a c8b
                  go_wp2_with fail
                  go_roundg (l - (e + 1))
                  case measure => have := HK.out; omega
                  case rel =>
                    have hsl2 := HSL.out
                    have hst : GI (lessB fo (some fi)) S (e + 1) (PL ++ [(S.getD s 0, S.getD e 0)]) := by
                      refine HGI.out.step (lessB_sw _ _) HSS.out hse (by omega) (fun t h1 h2 => ?_) ?_
                      · have h3 := HRUN.out t h1 h2
                        rw [HX0.out] at h3
                        exact eqk_of h3.1.symm h3.2.symm
                      · rcases HST.out with h3 | h3
                        · exact .inl (by omega)
                        · refine .inr (fun h4 => ?_)
                          rw [HX0.out] at h3
                          have h5 := eqk_key h4
                          rcases h3 with h3 | h3
                          · exact h3 h5.1.symm
                          · exact h3 h5.2.symm
                    have hmc2 := HMC.out.step HSS.out HPS.out hse (by omega) hksm (by rw [← HX0.out]; exact HKS.out) (S.getD e 0)
                    rw [← HX0.out, ← HXE.out] at hst hmc2
                    refine ⟨e + 1, g', PL ++ [(x0, xe)], _, by omega, by omega, by go_num, rfl, by simp; omega, hst, hmc2, S9.out, ?_, ?_, ?_, d9.out.1, d9.out.2.1, d9.out.2.2, B9.out⟩
                    · rw [List.map_append]; exact kO9.out
                    · rw [List.map_append]; exact kI9.out
                    · rw [List.map_append]; exact s9.out
          · have e1 : ((fo x1).toList == (fo x0).toList) = false := beq_str_false.2 q1
            have HST : Hid (e + 1 = l ∨ fo (S.getD (e + 1) 0) ≠ fo x0 ∨ fi (S.getD (e + 1) 0) ≠ fi x0) := .inr (.inl (by rw [← HX1.out]; exact q1))
            clear q1
            go_wp2_with fail
            go_quiet (fail)
            have hgks : g ≤ ks := by
              apply Decidable.byContradiction
              intro hlt
              have h1 := HMC.out.gle ks (by omega) s (Nat.le_refl _) (by have := HSL.out; omega)
              rw [← HX0.out, HKS.out, blt_irr] at h1
              cases h1
            go_wp2_with fail
            go_loopg [27] (ks - g) (fun k s27 wx => ∃ g' : Nat, k = ks - g' ∧ g' ≤ ks ∧ s27 = .int .i64 (g' : Nat) ∧ ∃ d, wx = wr.drewN d)
            case atStart => first | exact ⟨g, rfl, hgks, rfl, _, rfl⟩ | exact ⟨g, rfl, hgks, rfl, drew2 _ _ _⟩
            case round =>
              obtain ⟨g', hk3, hgk, rfl, d2, rfl⟩ := hrel
              have HK3 : Hid _ := hk3
              clear hk3
              have hgm : (g' : Int) < (m : Int) := by omega
              have cP0 := CP.out _ HBL.out g' (by omega)
              have dg : decide ((g' : Int) < (m : Int)) = true := by rw [decide_eq_true_iff]; omega
              by_cases hgl : g' < ks
              · have e3 : ((P g').toList == (fo x0).toList) = false := by
                  rw [beq_str_false, ← HKS.out]
                  intro h
                  have h1 := HPS.out g' ks hgl hksm
                  rw [h, blt_irr] at h1
                  cases h1
                go_wp2_with fail
                go_roundg (ks - (g' + 1))
                case measure => have := HK3.out; omega
                case rel => exact ⟨g' + 1, by omega, by omega, by go_num, _, rfl⟩
              · obtain rfl : g' = ks := by omega
                have e3 : ((P g').toList == (fo x0).toList) = true := beq_str.2 HKS.out
                have e4 : ((g' : Int) == (m : Int)) = false := by rw [beq_eq_false_iff_ne]; omega
                have hcn : cn g' ≤ 1048576 := by
                  rw [HMC.out.cnt g' hksm]
                  exact Nat.le_trans (List.length_filter_le _ _) (by omega)
                have cc1 := HRW.out.cell hksm
                have cz1 := HRW.out.frozen g'
                go_upto_region 58 with fail
                have S6 : Hid (rowPre ((wr.drewN d2).setCell ⟨gc, g', none⟩ (.int .i64 ((cn g' : Int) + 1))) gc 3 m (fun k => .int .i64 (((if k = g' then cn k + 1 else cn k) : Nat) : Int))) := ((HRW.out.drewN d2).set g' _).congr (fun k _ => by
                  by_cases ek : k = g'
                  · subst ek; simp
                  · simp [ek])
                have G6 : wr.grownBy ((wr.drewN d2).setCell ⟨gc, g', none⟩ (.int .i64 ((cn g' : Int) + 1))) (some gc) := ⟨rfl, rfl, rfl, by simp [World.setCell], fun k _ hk => Below.heap_setCell _ _ _ _ (fun e => hk (by rw [e]))⟩
                have hgs : gc + 1 ≤ wr.heap.size := by have := HRW.out.lt; omega
                have kO : Hid (SL ((wr.drewN d2).setCell ⟨gc, g', none⟩ (.int .i64 ((cn g' : Int) + 1))) (gc + 1) u24 (PL.map (fun p => fo p.1))) := own_off HLO.out G6 (by omega)
                have kI : Hid (SL ((wr.drewN d2).setCell ⟨gc, g', none⟩ (.int .i64 ((cn g' : Int) + 1))) (gc + 1) u25 (PL.map (fun p => fi p.1))) := own_off HLI.out G6 (by omega)
                have kV : Hid (SL ((wr.drewN d2).setCell ⟨gc, g', none⟩ (.int .i64 ((cn g' : Int) + 1))) (gc + 1) u26 (PL.map (fun p => fv p.2))) := own_off HLV.out G6 (by omega)
                have B6 : Hid (Below gc W1 ((wr.drewN d2).setCell ⟨gc, g', none⟩ (.int .i64 ((cn g' : Int) + 1)))) := (below_drewN HBL.out d2).setCell (Nat.le_refl _) _
                have z6 : gc + 1 ≤ ((wr.drewN d2).setCell ⟨gc, g', none⟩ (.int .i64 ((cn g' : Int) + 1))).heap.size := by simpa [World.setCell] using hgs
                clear cc1 cz1 G6 hgs
                generalize (wr.drewN d2).setCell ⟨gc, g', none⟩ (.int .i64 ((cn g' : Int) + 1)) = W6 at *
                go_upto_region 59 with (first | (at_builtin; refine wpList_append_own_at _ rfl _ _ 25 rfl (gc + 1) 9 i9 (.string ByteArray.empty) 1 16 Try.underlying25 HI9.out.1 HI9.out.2.1 HI9.out.2.2.1 HI9.out.2.2.2 rfl (by decide) _ (PL.map (fun p => fo p.1)).length ((PL.map (fun p => fo p.1)).map Value.string) rfl ?oaB ⟨W6.heap.size, 0, none⟩ 1 1 [.string (fo x0)] rfl rfl ?obB ?ocB ?odB ?oeB ?ofB ?_))
                case oaB => exact World.ownsRow.alloc kO.out _
                case obB => exact cell_one_new W6 _ _
                case ocB => exact str_one _
                case odB => rw [List.length_map]; unfold maxLen; omega
                case oeB => rw [List.length_map]; omega
                case ofB => rw [World.size_alloc']; omega
                intro v1 W7 hown7 hg7 _ hloc7
                have s7 : Hid (SL W7 (gc + 1) v1 (PL.map (fun p => fo p.1) ++ [fo x0])) := by first | exact SL.snoc hown7 | exact SL.snocM hown7
                have g7 := app_grown hg7
                have z7 : W6.heap.size ≤ W7.heap.size := g7.size
                have kI7 : Hid (SL W7 (gc + 1) u25 (PL.map (fun p => fi p.1))) := own_keep kI.out g7 HD.out.1.symm
                have kV7 : Hid (SL W7 (gc + 1) u26 (PL.map (fun p => fv p.2))) := own_keep kV.out g7 HD.out.2.1.symm
                have d7 : Hid (Dist u25 v1 ∧ Dist u26 v1) := ⟨HD.out.1.symm.app kI.out hloc7 (by simp), HD.out.2.1.symm.app kV.out hloc7 (by simp)⟩
                have S7 : Hid (rowPre W7 gc 3 m (fun k => .int .i64 (((if k = g' then cn k + 1 else cn k) : Nat) : Int))) := S6.out.of_block (g7.block gc (by omega) (fun e => by have := (own_lt kO.out e.symm).2; omega))
                have B7 : Hid (Below gc W1 W7) := app_below B6.out kO.out g7 (by omega) (by omega)
                clear hown7 hg7 hloc7 g7
                have c7a := GS.out _ B7.out s hs1
                rw [← HX0.out] at c7a
                have c7b := CG.out _ B7.out x0 hx0n
                go_upto_region 60 with (first | (at_builtin; refine wpList_append_own_at _ rfl _ _ 25 rfl (gc + 1) 9 i9 (.string ByteArray.empty) 1 16 Try.underlying25 HI9.out.1 HI9.out.2.1 HI9.out.2.2.1 HI9.out.2.2.2 rfl (by decide) _ (PL.map (fun p => fi p.1)).length ((PL.map (fun p => fi p.1)).map Value.string) rfl ?paB ⟨W7.heap.size, 0, none⟩ 1 1 [.string (fi x0)] rfl rfl ?pbB ?pcB ?pdB ?peB ?pfB ?_))
                case paB => exact World.ownsRow.alloc kI7.out _
                case pbB => exact cell_one_new W7 _ _
                case pcB => exact str_one _
                case pdB => rw [List.length_map]; unfold maxLen; omega
                case peB => rw [List.length_map]; omega
                case pfB => rw [World.size_alloc']; omega
                intro v2 W8 hown8 hg8 _ hloc8
                have s8 : Hid (SL W8 (gc + 1) v2 (PL.map (fun p => fi p.1) ++ [fi x0])) := by first | exact SL.snoc hown8 | exact SL.snocM hown8
                have g8 := app_grown hg8
                have z8 : W7.heap.size ≤ W8.heap.size := g8.size
                have kO8 : Hid (SL W8 (gc + 1) v1 (PL.map (fun p => fo p.1) ++ [fo x0])) := own_keep s7.out g8 d7.out.1.symm
                have kV8 : Hid (SL W8 (gc + 1) u26 (PL.map (fun p => fv p.2))) := own_keep kV7.out g8 HD.out.2.2.symm
                have d8 : Hid (Dist v1 v2 ∧ Dist u26 v2) := ⟨d7.out.1.symm.app s7.out hloc8 (by simp), HD.out.2.2.symm.app kV7.out hloc8 (by simp)⟩
                have S8 : Hid (rowPre W8 gc 3 m (fun k => .int .i64 (((if k = g' then cn k + 1 else cn k) : Nat) : Int))) := S7.out.of_block (g8.block gc (by omega) (fun e => by have := (own_lt kI7.out e.symm).2; omega))
                have B8 : Hid (Below gc W1 W8) := app_below B7.out kI7.out g8 (by omega) (by omega)
                clear hown8 hg8 hloc8 g8 c7a c7b
                obtain ⟨xe, hxe⟩ : ∃ x, x = S.getD e 0 := ⟨_, rfl⟩
                have HXE : Hid (xe = S.getD e 0) := hxe
                have hxen : xe < n := by rw [hxe]; exact (HSN.out e hel).1
                have c8a := GS.out _ B8.out e hel
                rw [← hxe] at c8a
                have c8b := CH.out _ B8.out xe hxen
                have hxeI : (xe : Int) < (n : Int) := by omega
                have helI : (e : Int) < (l : Int) := by omega
                clear hxe
                go_upto_region 61 with (first | (at_builtin; refine wpList_append_own_at _ rfl _ _ 25 rfl (gc + 1) 9 i9 (.string ByteArray.empty) 1 16 Try.underlying25 HI9.out.1 HI9.out.2.1 HI9.out.2.2.1 HI9.out.2.2.2 rfl (by decide) _ (PL.map (fun p => fv p.2)).length ((PL.map (fun p => fv p.2)).map Value.string) rfl ?qaB ⟨W8.heap.size, 0, none⟩ 1 1 [.string (fv xe)] rfl rfl ?qbB ?qcB ?qdB ?qeB ?qfB ?_))
                case qaB => exact World.ownsRow.alloc kV8.out _
                case qbB => exact cell_one_new W8 _ _
                case qcB => exact str_one _
                case qdB => rw [List.length_map]; unfold maxLen; omega
                case qeB => rw [List.length_map]; omega
                case qfB => rw [World.size_alloc']; omega
                intro v3 W9 hown9 hg9 _ hloc9
                have s9 : Hid (SL W9 (gc + 1) v3 (PL.map (fun p => fv p.2) ++ [fv xe])) := by first | exact SL.snoc hown9 | exact SL.snocM hown9
                have g9 := app_grown hg9
                have kO9 : Hid (SL W9 (gc + 1) v1 (PL.map (fun p => fo p.1) ++ [fo x0])) := own_keep kO8.out g9 d7.out.2.symm
                have kI9 : Hid (SL W9 (gc + 1) v2 (PL.map (fun p => fi p.1) ++ [fi x0])) := own_keep s8.out g9 d8.out.2.symm
                have d9 : Hid (Dist v1 v2 ∧ Dist v1 v3 ∧ Dist v2 v3) := ⟨d8.out.1, d7.out.2.symm.app kO8.out hloc9 (by simp), d8.out.2.symm.app s8.out hloc9 (by simp)⟩
                have S9 : Hid (rowPre W9 gc 3 m (fun k => .int .i64 (((if k = g' then cn k + 1 else cn k) : Nat) : Int))) := S8.out.of_block (g9.block gc (by omega) (fun e => by have := (own_lt kV8.out e.symm).2; omega))
                have B9 : Hid (Below gc W1 W9) := app_below B8.out kV8.out g9 (by omega) (by omega)
                clear hown9 hg9 hloc9 g9 c8a c8b
                go_wp2_with fail
                go_roundg (l - (e + 1))
                case measure => have := HK.out; omega
                case rel =>
                  have hsl2 := HSL.out
                  have hst : GI (lessB fo (some fi)) S (e + 1) (PL ++ [(S.getD s 0, S.getD e 0)]) := by
                    refine HGI.out.step (lessB_sw _ _) HSS.out hse (by omega) (fun t h1 h2 => ?_) ?_
                    · have h3 := HRUN.out t h1 h2
                      rw [HX0.out] at h3
                      exact eqk_of h3.1.symm h3.2.symm
                    · rcases HST.out with h3 | h3
                      · exact .inl (by omega)
                      · refine .inr (fun h4 => ?_)
                        rw [HX0.out] at h3
                        have h5 := eqk_key h4
                        rcases h3 with h3 | h3
                        · exact h3 h5.1.symm
                        · exact h3 h5.2.symm
                  have hmc2 := HMC.out.step HSS.out HPS.out hse (by omega) hksm (by rw [← HX0.out]; exact HKS.out) (S.getD e 0)
                  rw [← HX0.out, ← HXE.out] at hst hmc2
                  refine ⟨e + 1, g', PL ++ [(x0, xe)], _, by omega, by omega, by go_num, rfl, by simp; omega, hst, hmc2, S9.out, ?_, ?_, ?_, d9.out.1, d9.out.2.1, d9.out.2.2, B9.out⟩
                  · rw [List.map_append]; exact kO9.out
                  · rw [List.map_append]; exact kI9.out
                  · rw [List.map_append]; exact s9.out
        · have de : decide ((e : Int) + 1 < (l : Int)) = false := by rw [decide_eq_false_iff_not]; omega
          have HST : Hid (e + 1 = l ∨ fo (S.getD (e + 1) 0) ≠ fo x0 ∨ fi (S.getD (e + 1) 0) ≠ fi x0) := .inl (by omega)
          go_wp2_with fail
          go_quiet (fail)
          have hgks : g ≤ ks := by
            apply Decidable.byContradiction
            intro hlt
            have h1 := HMC.out.gle ks (by omega) s (Nat.le_refl _) (by have := HSL.out; omega)
            rw [← HX0.out, HKS.out, blt_irr] at h1
            cases h1
          go_wp2_with fail
          go_loopg [27] (ks - g) (fun k s27 wx => ∃ g' : Nat, k = ks - g' ∧ g' ≤ ks ∧ s27 = .int .i64 (g' : Nat) ∧ ∃ d, wx = wr.drewN d)
          case atStart => first | exact ⟨g, rfl, hgks, rfl, _, rfl⟩ | exact ⟨g, rfl, hgks, rfl, drew2 _ _ _⟩
          case round =>
            obtain ⟨g', hk3, hgk, rfl, d2, rfl⟩ := hrel
            have HK3 : Hid _ := hk3
            clear hk3
            have hgm : (g' : Int) < (m : Int) := by omega
            have cP0 := CP.out _ HBL.out g' (by omega)
            have dg : decide ((g' : Int) < (m : Int)) = true := by rw [decide_eq_true_iff]; omega
            by_cases hgl : g' < ks
            · have e3 : ((P g').toList == (fo x0).toList) = false := by
                rw [beq_str_false, ← HKS.out]
                intro h
                have h1 := HPS.out g' ks hgl hksm
                rw [h, blt_irr] at h1
                cases h1
              go_wp2_with fail
              go_roundg (ks - (g' + 1))
              case measure => have := HK3.out; omega
              case rel => exact ⟨g' + 1, by omega, by omega, by go_num, _, rfl⟩
            · obtain rfl : g' = ks := by omega
              have e3 : ((P g').toList == (fo x0).toList) = true := beq_str.2 HKS.out
              have e4 : ((g' : Int) == (m : Int)) = false := by rw [beq_eq_false_iff_ne]; omega
              have hcn : cn g' ≤ 1048576 := by
                rw [HMC.out.cnt g' hksm]
                exact Nat.le_trans (List.length_filter_le _ _) (by omega)
              have cc1 := HRW.out.cell hksm
              have cz1 := HRW.out.frozen g'
              go_upto_region 58 with fail
              have S6 : Hid (rowPre ((wr.drewN d2).setCell ⟨gc, g', none⟩ (.int .i64 ((cn g' : Int) + 1))) gc 3 m (fun k => .int .i64 (((if k = g' then cn k + 1 else cn k) : Nat) : Int))) := ((HRW.out.drewN d2).set g' _).congr (fun k _ => by
                by_cases ek : k = g'
                · subst ek; simp
                · simp [ek])
              have G6 : wr.grownBy ((wr.drewN d2).setCell ⟨gc, g', none⟩ (.int .i64 ((cn g' : Int) + 1))) (some gc) := ⟨rfl, rfl, rfl, by simp [World.setCell], fun k _ hk => Below.heap_setCell _ _ _ _ (fun e => hk (by rw [e]))⟩
              have hgs : gc + 1 ≤ wr.heap.size := by have := HRW.out.lt; omega
              have kO : Hid (SL ((wr.drewN d2).setCell ⟨gc, g', none⟩ (.int .i64 ((cn g' : Int) + 1))) (gc + 1) u24 (PL.map (fun p => fo p.1))) := own_off HLO.out G6 (by omega)
              have kI : Hid (SL ((wr.drewN d2).setCell ⟨gc, g', none⟩ (.int .i64 ((cn g' : Int) + 1))) (gc + 1) u25 (PL.map (fun p => fi p.1))) := own_off HLI.out G6 (by omega)
              have kV : Hid (SL ((wr.drewN d2).setCell ⟨gc, g', none⟩ (.int .i64 ((cn g' : Int) + 1))) (gc + 1) u26 (PL.map (fun p => fv p.2))) := own_off HLV.out G6 (by omega)
              have B6 : Hid (Below gc W1 ((wr.drewN d2).setCell ⟨gc, g', none⟩ (.int .i64 ((cn g' : Int) + 1)))) := (below_drewN HBL.out d2).setCell (Nat.le_refl _) _
              have z6 : gc + 1 ≤ ((wr.drewN d2).setCell ⟨gc, g', none⟩ (.int .i64 ((cn g' : Int) + 1))).heap.size := by simpa [World.setCell] using hgs
              clear cc1 cz1 G6 hgs
              generalize (wr.drewN d2).setCell ⟨gc, g', none⟩ (.int .i64 ((cn g' : Int) + 1)) = W6 at *
              go_upto_region 59 with (first | (at_builtin; refine wpList_append_own_at _ rfl _ _ 25 rfl (gc + 1) 9 i9 (.string ByteArray.empty) 1 16 Try.underlying25 HI9.out.1 HI9.out.2.1 HI9.out.2.2.1 HI9.out.2.2.2 rfl (by decide) _ (PL.map (fun p => fo p.1)).length ((PL.map (fun p => fo p.1)).map Value.string) rfl ?oaC ⟨W6.heap.size, 0, none⟩ 1 1 [.string (fo x0)] rfl rfl ?obC ?ocC ?odC ?oeC ?ofC ?_))
              case oaC => exact World.ownsRow.alloc kO.out _
              case obC => exact cell_one_new W6 _ _
              case ocC => exact str_one _
              case odC => rw [List.length_map]; unfold maxLen; omega
              case oeC => rw [List.length_map]; omega
              case ofC => rw [World.size_alloc']; omega
              intro v1 W7 hown7 hg7 _ hloc7
              have s7 : Hid (SL W7 (gc + 1) v1 (PL.map (fun p => fo p.1) ++ [fo x0])) := by first | exact SL.snoc hown7 | exact SL.snocM hown7
              have g7 := app_grown hg7
              have z7 : W6.heap.size ≤ W7.heap.size := g7.size
              have kI7 : Hid (SL W7 (gc + 1) u25 (PL.map (fun p => fi p.1))) := own_keep kI.out g7 HD.out.1.symm
              have kV7 : Hid (SL W7 (gc + 1) u26 (PL.map (fun p => fv p.2))) := own_keep kV.out g7 HD.out.2.1.symm
              have d7 : Hid (Dist u25 v1 ∧ Dist u26 v1) := ⟨HD.out.1.symm.app kI.out hloc7 (by simp), HD.out.2.1.symm.app kV.out hloc7 (by simp)⟩
              have S7 : Hid (rowPre W7 gc 3 m (fun k => .int .i64 (((if k = g' then cn k + 1 else cn k) : Nat) : Int))) := S6.out.of_block (g7.block gc (by omega) (fun e => by have := (own_lt kO.out e.symm).2; omega))
              have B7 : Hid (Below gc W1 W7) := app_below B6.out kO.out g7 (by omega) (by omega)
              clear hown7 hg7 hloc7 g7
              have c7a := GS.out _ B7.out s hs1
              rw [← HX0.out] at c7a
              have c7b := CG.out _ B7.out x0 hx0n
              go_upto_region 60 with (first | (at_builtin; refine wpList_append_own_at _ rfl _ _ 25 rfl (gc + 1) 9 i9 (.string ByteArray.empty) 1 16 Try.underlying25 HI9.out.1 HI9.out.2.1 HI9.out.2.2.1 HI9.out.2.2.2 rfl (by decide) _ (PL.map (fun p => fi p.1)).length ((PL.map (fun p => fi p.1)).map Value.string) rfl ?paC ⟨W7.heap.size, 0, none⟩ 1 1 [.string (fi x0)] rfl rfl ?pbC ?pcC ?pdC ?peC ?pfC ?_))
              case paC => exact World.ownsRow.alloc kI7.out _
              case pbC => exact cell_one_new W7 _ _
              case pcC => exact str_one _
              case pdC => rw [List.length_map]; unfold maxLen; omega
              case peC => rw [List.length_map]; omega
              case pfC => rw [World.size_alloc']; omega
              intro v2 W8 hown8 hg8 _ hloc8
              have s8 : Hid (SL W8 (gc + 1) v2 (PL.map (fun p => fi p.1) ++ [fi x0])) := by first | exact SL.snoc hown8 | exact SL.snocM hown8
              have g8 := app_grown hg8
              have z8 : W7.heap.size ≤ W8.heap.size := g8.size
              have kO8 : Hid (SL W8 (gc + 1) v1 (PL.map (fun p => fo p.1) ++ [fo x0])) := own_keep s7.out g8 d7.out.1.symm
              have kV8 : Hid (SL W8 (gc + 1) u26 (PL.map (fun p => fv p.2))) := own_keep kV7.out g8 HD.out.2.2.symm
              have d8 : Hid (Dist v1 v2 ∧ Dist u26 v2) := ⟨d7.out.1.symm.app s7.out hloc8 (by simp), HD.out.2.2.symm.app kV7.out hloc8 (by simp)⟩
              have S8 : Hid (rowPre W8 gc 3 m (fun k => .int .i64 (((if k = g' then cn k + 1 else cn k) : Nat) : Int))) := S7.out.of_block (g8.block gc (by omega) (fun e => by have := (own_lt kI7.out e.symm).2; omega))
              have B8 : Hid (Below gc W1 W8) := app_below B7.out kI7.out g8 (by omega) (by omega)
              clear hown8 hg8 hloc8 g8 c7a c7b
              obtain ⟨xe, hxe⟩ : ∃ x, x = S.getD e 0 := ⟨_, rfl⟩
              have HXE : Hid (xe = S.getD e 0) := hxe
              have hxen : xe < n := by rw [hxe]; exact (HSN.out e hel).1
              have c8a := GS.out _ B8.out e hel
              rw [← hxe] at c8a
              have c8b := CH.out _ B8.out xe hxen
              have hxeI : (xe : Int) < (n : Int) := by omega
              have helI : (e : Int) < (l : Int) := by omega
              clear hxe
              go_upto_region 61 with (first | (at_builtin; refine wpList_append_own_at _ rfl _ _ 25 rfl (gc + 1) 9 i9 (.string ByteArray.empty) 1 16 Try.underlying25 HI9.out.1 HI9.out.2.1 HI9.out.2.2.1 HI9.out.2.2.2 rfl (by decide) _ (PL.map (fun p => fv p.2)).length ((PL.map (fun p => fv p.2)).map Value.string) rfl ?qaC ⟨W8.heap.size, 0, none⟩ 1 1 [.string (fv xe)] rfl rfl ?qbC ?qcC ?qdC ?qeC ?qfC ?_))
              case qaC => exact World.ownsRow.alloc kV8.out _
              case qbC => exact cell_one_new W8 _ _
              case qcC => exact str_one _
              case qdC => rw [List.length_map]; unfold maxLen; omega
              case qeC => rw [List.length_map]; omega
              case qfC => rw [World.size_alloc']; omega
              intro v3 W9 hown9 hg9 _ hloc9
              have s9 : Hid (SL W9 (gc + 1) v3 (PL.map (fun p => fv p.2) ++ [fv xe])) := by first | exact SL.snoc hown9 | exact SL.snocM hown9
              have g9 := app_grown hg9
              have kO9 : Hid (SL W9 (gc + 1) v1 (PL.map (fun p => fo p.1) ++ [fo x0])) := own_keep kO8.out g9 d7.out.2.symm
              have kI9 : Hid (SL W9 (gc + 1) v2 (PL.map (fun p => fi p.1) ++ [fi x0])) := own_keep s8.out g9 d8.out.2.symm
              have d9 : Hid (Dist v1 v2 ∧ Dist v1 v3 ∧ Dist v2 v3) := ⟨d8.out.1, d7.out.2.symm.app kO8.out hloc9 (by simp), d8.out.2.symm.app s8.out hloc9 (by simp)⟩
              have S9 : Hid (rowPre W9 gc 3 m (fun k => .int .i64 (((if k = g' then cn k + 1 else cn k) : Nat) : Int))) := S8.out.of_block (g9.block gc (by omega) (fun e => by have := (own_lt kV8.out e.symm).2; omega))
              have B9 : Hid (Below gc W1 W9) := app_below B8.out kV8.out g9 (by omega) (by omega)
              clear hown9 hg9 hloc9 g9 c8a c8b
              go_wp2_with fail
              go_roundg (l - (e + 1))
              case measure => have := HK.out; omega
              case rel =>
                have hsl2 := HSL.out
                have hst : GI (lessB fo (some fi)) S (e + 1) (PL ++ [(S.getD s 0, S.getD e 0)]) := by
                  refine HGI.out.step (lessB_sw _ _) HSS.out hse (by omega) (fun t h1 h2 => ?_) ?_
                  · have h3 := HRUN.out t h1 h2
                    rw [HX0.out] at h3
                    exact eqk_of h3.1.symm h3.2.symm
                  · rcases HST.out with h3 | h3
                    · exact .inl (by omega)
                    · refine .inr (fun h4 => ?_)
                      rw [HX0.out] at h3
                      have h5 := eqk_key h4
                      rcases h3 with h3 | h3
                      · exact h3 h5.1.symm
                      · exact h3 h5.2.symm
                have hmc2 := HMC.out.step HSS.out HPS.out hse (by omega) hksm (by rw [← HX0.out]; exact HKS.out) (S.getD e 0)
                rw [← HX0.out, ← HXE.out] at hst hmc2
                refine ⟨e + 1, g', PL ++ [(x0, xe)], _, by omega, by omega, by go_num, rfl, by simp; omega, hst, hmc2, S9.out, ?_, ?_, ?_, d9.out.1, d9.out.2.1, d9.out.2.2, B9.out⟩
                · rw [List.map_append]; exact kO9.out
                · rw [List.map_append]; exact kI9.out
                · rw [List.map_append]; exact s9.out
    · have hsI : ¬ (s : Int) < (l : Int) := by omega
      obtain rfl : s = l := by omega
      obtain ⟨aQ, cQ, rfl, hQ⟩ := SL.strs HLO.out
      obtain ⟨aR, cR, rfl, hR⟩ := SL.strs HLI.out
      obtain ⟨aS, cSS, rfl, hS⟩ := SL.strs HLV.out
      rw [List.length_map] at hQ hR hS
      simp only [List.length_map]
      have hgs : gc = W1.heap.size := HGC.out
      have hB0 : Below W.heap.size W wr := Below.trans' HSB.out HBL.out (by have := HSB.out.size; omega)
      have hB1 : Below w0.heap.size w0 wr := Below.trans' HW0.out hB0 HW0.out.size
      have hgi2 : GI (lessB fo (some fi)) S S.length PL := by have := HGI.out; rwa [HSL.out]
      obtain ⟨ho1, ho2⟩ := HOWE.out S PL cn HSP.out HSS.out hgi2 HMC.out.cnt
      have hPQ : Hid _ := And.intro hQ (And.intro hR hS)
      have hO12 : Hid _ := And.intro ho1 ho2
      have HB1 : Hid (Below w0.heap.size w0 wr) := hB1
      have HB0 : Hid (Below W.heap.size W wr) := hB0
      clear hQ hR hS ho1 ho2 hB1 hB0 hgi2 hgs
      go_upto_if 253 with fail
      go_step
      go_step
      go_step
      go_step
      have hR1 := HR1.out
      have hZ := HZ.out
      exact lwC w0 wr HB1.out aO aI aB aV aP aQ aR aS m PL.length N gc m cO cI cB cV cP cQ cR cSS O I V B P _ _ _ cn L hN HLL.out hm (by omega) hs (hR1.1.below HB0.out) (hR1.2.1.below HB0.out) (hR1.2.2.1.below HB0.out) (hR1.2.2.2.below HB0.out) hZ.1 hZ.2.1
        (HP.out.below HB0.out) hPQ.out.1 hPQ.out.2.1 hPQ.out.2.2 hZ.2.2.1 (getD_size (fun x hx => by obtain ⟨p, _, rfl⟩ := List.mem_map.1 hx; exact hZ.2.2.2.1 _)) (getD_size (fun x hx => by obtain ⟨p, _, rfl⟩ := List.mem_map.1 hx; exact hZ.2.2.2.2 _)) (fun k hk => HRW.out.cell hk) hO12.out.1 hO12.out.2 HC.out
end Go.Proofs.Qxb6604637a
