/- ZZEffectiveNested from the laying of the documents on. -/
import Derived.Test.Qxb6604637aEf
namespace Go.Proofs.Qxb6604637a
open Go.RowKit Go.Maps Go.MapKept Go.WideMaps Go.ChangeMaps
set_option linter.unusedVariables false

theorem Try.info4c : (Try.prog.info? 4).map (fun i => (i.zero, i.size, i.bytes)) = some (some (.bool false), 1, 1) := by kernel_rfl
theorem Try.info3c : (Try.prog.info? 3).map (fun i => (i.zero, i.size, i.bytes)) = some (some (.int .i64 0), 1, 8) := by kernel_rfl
theorem Try.info9c : (Try.prog.info? 9).map (fun i => (i.zero, i.size, i.bytes)) = some (some (.string ByteArray.empty), 1, 16) := by kernel_rfl
theorem Try.info44c : (Try.prog.info? 44).map (fun i => (i.zero, i.size, i.bytes)) = some (some (.map none), 1, 8) := by kernel_rfl

/-- a row of strings in a block of its own -/
def Strs (w : World) (a : Option Addr) (m : Nat) (P : Nat → ByteArray) : Prop := m = 0 ∨ ∃ g : Nat, a = some ⟨g, 0, none⟩ ∧ ∀ k, k < m → w.cell? ⟨g, k, none⟩ = some (.string (P k))

/-- F has c keys -/
def CardD (F : Doc) (c : Nat) : Prop := ∃ L : List Lit, L.Nodup ∧ L.length = c ∧ ∀ k, k ∈ L ↔ (F k).isSome = true

/-- what ZZEffectiveNested hands back -/
def EnPost (w0 : World) (m q : Nat) (cnt : Nat → Nat) (Sv : Nat → ByteArray) (c : Nat) (e : Ending) (w' : World) : Prop :=
  ∃ p1 p2 p3 p4 : Nat, e = .returned (.tuple #[.slice (some ⟨p1, 0, none⟩) m m, .slice (some ⟨p2, 0, none⟩) m m, .slice (some ⟨p3, 0, none⟩) q q, .slice (some ⟨p4, 0, none⟩) q q, .int .i64 (c : Nat), .bool (decide (c = 0))]) ∧
    (∀ k, k < m → w'.cell? ⟨p1, k, none⟩ = some (.bool true)) ∧ (∀ k, k < m → w'.cell? ⟨p2, k, none⟩ = some (.int .i64 (cnt k : Nat))) ∧ (∀ k, k < q → w'.cell? ⟨p3, k, none⟩ = some (.bool true)) ∧ (∀ k, k < q → w'.cell? ⟨p4, k, none⟩ = some (.string (Sv k))) ∧ Below w0.heap.size w0 w'

theorem results_tmp6 {fn : Func} {t u v x y z : Tmp} (h : fn.results = #[.tmp t, .tmp u, .tmp v, .tmp x, .tmp y, .tmp z]) (tmps : Array Value) (P : Program) (w : World) :
    (results fn tmps).run P w = .ok (.tuple #[tmps.getD t undef, tmps.getD u undef, tmps.getD v undef, tmps.getD x undef, tmps.getD y undef, tmps.getD z undef]) w := by
  simp [results, h]

theorem rowPre_made (w : World) (t : TypeId) (z : Value) (n : Nat) : rowPre (w.alloc (.cells (madeCells #[z] n) t)) w.heap.size t n (fun _ => z) := by
  refine ⟨madeCells #[z] n, by rw [heap_alloc_new], by simp [madeCells], fun i hi => ?_⟩
  simp [madeCells, hi, Nat.mod_one]

theorem rowPre.put {w : World} {b : Nat} {t : TypeId} {n : Nat} {z : Value} {f : Nat → Value} {j : Nat} (h : rowPre w b t n (fun i => if i < j then f i else z)) (hj : j < n) {v : Value} (hv : v = f j) : rowPre (w.setCell ⟨b, j, none⟩ v) b t n (fun i => if i < j + 1 then f i else z) := by
  refine (h.set j v).congr fun i hi => ?_
  by_cases e : i = j
  · subst e; simp [hv]
  · by_cases e' : i < j
    · simp [e, e', show i < j + 1 by omega]
    · simp [e, e', show ¬ i < j + 1 by omega]
theorem Below.setAt {B : Nat} {a w : World} (h : Below B a w) {p : Nat} (hp : B ≤ p) (i : Nat) (v : Value) : Below B a (w.setCell ⟨p, i, none⟩ v) := h.setCell hp v

/-- a document that is met: its content by key -/
theorem NMap.at {w : World} {b n : Nat} {F : Doc} (h : NMap w b n F) : ∃ f : Lit → Option Value, MapIs w b n f ∧ ∀ k g, F k = some g → ∃ blk, f k = some (im blk) ∧ MapIs w blk n g := by
  obtain ⟨c, h1, h2⟩ := h
  refine ⟨_, h1, fun k g hk => ?_⟩
  have e := (h2 k).1
  rw [hk] at e
  obtain ⟨blk, hb⟩ := Option.isSome_iff_exists.1 e
  exact ⟨blk, by rw [hb]; rfl, ((h2 k).2 blk g hb hk).1⟩

theorem NMap.card {w : World} {b n c : Nat} {F : Doc} (h : NMap w b n F) (hc : CardD F c) : ∃ f : Lit → Option Value, MapIs w b n f ∧ Card f c := by
  obtain ⟨cc, h1, h2⟩ := h
  refine ⟨_, h1, ?_⟩
  obtain ⟨L, l1, l2, l3⟩ := hc
  refine ⟨L, l1, l2, fun k => ?_⟩
  rw [l3 k, ← (h2 k).1]
  simp

set_option maxHeartbeats 8000000 in
set_option maxRecDepth 100000 in
theorem enB (w0 W : World) (hW0 : Below w0.heap.size w0 W) (aP aQ aR aD : Option Addr) (m q N cP cQ cR cD : Nat) (P Qo Qi Sv : Nat → ByteArray) (cnt : Nat → Nat) (c : Nat) (od : Nat → Option Nat) (L : Nat → Nat) (Fd : Nat → Doc)
    (hN : N ≤ 1048576) (hm : m ≤ 1048576) (hq : q ≤ 1048576) (d : Nat) (haD : aD = some ⟨d, 0, none⟩) (hd : ∀ i, i < N → W.cell? ⟨d, i, none⟩ = some (.map (od i))) (hD : ∀ i, i < N → DocO W (od i) (L i) (Fd i)) (hs : psum L N < maxLen)
    (hP : Strs W aP m P) (hQ : Strs W aQ q Qo) (hR : Strs W aR q Qi) (zP : ∀ k, (P k).size ≤ maxLen) (zQ : ∀ k, (Qo k).size ≤ maxLen) (zR : ∀ k, (Qi k).size ≤ maxLen)
    (hp : ∀ k, k < m → ∃ g, foldD Fd N (sk (P k)) = some g ∧ Card g (cnt k)) (hqq : ∀ k, k < q → ∃ g, foldD Fd N (sk (Qo k)) = some g ∧ g (sk (Qi k)) = some (is (Sv k))) (hc : CardD (foldD Fd N) c)
    {u0 u1 u2 u3 u7 u8 u9 u10 u11 u12 u13 u14 u15 u16 u17 u18 u19 u21 u22 u23 u24 u25 u26 u27 u28 u29 u30 u31 u32 u33 u34 u35 u36 u37 u38 u39 u40 u41 u42 u43 u44 u45 u46 u47 u48 u49 u50 u51 u52 u53 u54 u55 u56 u57 u58 u59 u60 u61 u62 u63 u64 u65 u66 u67 u68 u69 u70 u71 u72 u73 u74 u75 u76 u77 u78 u79 u80 u81 u82 u83 u84 u85 u86 u87 u88 u89 u90 u91 u92 u93 u94 u95 u96 u97 u98 u99 u100 u101 u102 u103 u104 u105 u106 u107 u108 u109 u110 u111 u112 u113 u114 u115 u116 u117 u118 u119 u120 u121 u122 u123 u124 u125 u126 u127 u128 u129 u130 u131 u132 u133 u134 u135 u136 u137 u138 u139 u140 u141 u142 u143 u144 u145 u146 u147 u148 u149 u150 u151 u152 u153 u154 u155 u156 u157 u158 u159 u160 u161 u162 u163 u164 u165 u166 u167 u168 u169 u170 u171 u172 u173 u174 u175 u176 u177 u178 u179 u180 u181 u182 u183 u184 u185 u186 u187 u188 u189 u190 u191 u192 u193 u194 u195 u196 u197 u198 u199 u200 u201 u202 u203 u204 u205 u206 u207 u208 : Value} :
    Code.wp Try.prog (tailC 3 (Try.f15.body.getD .skip)) (bodyPost Try.prog Try.f15 (EnPost w0 m q cnt Sv c)) ⟨#[u0, u1, u2, u3, .slice aP m cP, .slice aQ q cQ, .slice aR q cR, u7, u8, u9, u10, u11, u12, u13, u14, u15, u16, u17, u18, u19, .slice aD N cD, u21, u22, u23, u24, u25, u26, u27, u28, u29, u30, u31, u32, u33, u34, u35, u36, u37, u38, u39, u40, u41, u42, u43, u44, u45, u46, u47, u48, u49, u50, u51, u52, u53, u54, u55, u56, u57, u58, u59, u60, u61, u62, u63, u64, u65, u66, u67, u68, u69, u70, u71, u72, u73, u74, u75, u76, u77, u78, u79, u80, u81, u82, u83, u84, u85, u86, u87, u88, u89, u90, u91, u92, u93, u94, u95, u96, u97, u98, u99, u100, u101, u102, u103, u104, u105, u106, u107, u108, u109, u110, u111, u112, u113, u114, u115, u116, u117, u118, u119, u120, u121, u122, u123, u124, u125, u126, u127, u128, u129, u130, u131, u132, u133, u134, u135, u136, u137, u138, u139, u140, u141, u142, u143, u144, u145, u146, u147, u148, u149, u150, u151, u152, u153, u154, u155, u156, u157, u158, u159, u160, u161, u162, u163, u164, u165, u166, u167, u168, u169, u170, u171, u172, u173, u174, u175, u176, u177, u178, u179, u180, u181, u182, u183, u184, u185, u186, u187, u188, u189, u190, u191, u192, u193, u194, u195, u196, u197, u198, u199, u200, u201, u202, u203, u204, u205, u206, u207, u208], []⟩ W := by
  have HD : Hid (∀ i, i < N → W.cell? ⟨d, i, none⟩ = some (.map (od i))) := hd
  have HDD : Hid (∀ i, i < N → DocO W (od i) (L i) (Fd i)) := hD
  have HP : Hid (Strs W aP m P) := hP
  have HQ : Hid (Strs W aQ q Qo) := hQ
  have HR : Hid (Strs W aR q Qi) := hR
  have ZP : Hid (∀ k, (P k).size ≤ maxLen) := zP
  have ZQ : Hid (∀ k, (Qo k).size ≤ maxLen) := zQ
  have ZR : Hid (∀ k, (Qi k).size ≤ maxLen) := zR
  have HPP : Hid (∀ k, k < m → ∃ g, foldD Fd N (sk (P k)) = some g ∧ Card g (cnt k)) := hp
  have HQQ : Hid (∀ k, k < q → ∃ g, foldD Fd N (sk (Qo k)) = some g ∧ g (sk (Qi k)) = some (is (Sv k))) := hqq
  have HC : Hid (CardD (foldD Fd N) c) := hc
  have HW0 : Hid (Below w0.heap.size w0 W) := hW0
  have hmk1 := fun w => run_make_row' (P := Try.prog) 30 4 (.bool false) 1 Try.underlying30 Try.info4c rfl .i64 .i64 m (by omega) (by omega) w
  have hmk2 := fun w => run_make_row' (P := Try.prog) 27 3 (.int .i64 0) 8 Try.underlying27 Try.info3c rfl .i64 .i64 m (by omega) (by omega) w
  have hmk3 := fun w => run_make_row' (P := Try.prog) 30 4 (.bool false) 1 Try.underlying30 Try.info4c rfl .i64 .i64 q (by omega) (by omega) w
  have hmk4 := fun w => run_make_row' (P := Try.prog) 25 9 (.string ByteArray.empty) 16 Try.underlying25 Try.info9c rfl .i64 .i64 q (by omega) (by omega) w
  subst haD
  clear hd hD hP hQ hR zP zQ zR hp hqq hc hW0
  conv => arg 2; whnf
  go_wp2_with fail
  refine (effective_any W d N cD od L Fd hN HD.out HDD.out hs).mono ?_
  rintro e W1 ⟨o, rfl, hO, hFu, hB1⟩
  have HO : Hid (DocO W1 o (psum L N) (foldD Fd N)) := hO
  have HFu : Hid (Full o (foldD Fd N)) := hFu
  have HB1 : Hid (Below W.heap.size W W1) := hB1
  clear hO hFu hB1
  go_upto_region 22 with fail
  obtain ⟨p1, hp1⟩ : ∃ p1, p1 = W1.heap.size := ⟨_, rfl⟩
  have B2 : Hid (Below p1 W1 ((W1.alloc (Obj.cells (madeCells #[.bool false] m) 4)).alloc (Obj.cells (madeCells #[.int .i64 0] m) 3))) := by
    subst hp1; exact ((Below.refl _ _).alloc (Nat.le_refl _) _).alloc (by simp) _
  have R1 : Hid (rowPre ((W1.alloc (Obj.cells (madeCells #[.bool false] m) 4)).alloc (Obj.cells (madeCells #[.int .i64 0] m) 3)) p1 4 m (fun i => if i < 0 then (fun _ => .bool true) i else .bool false)) := by
    subst hp1; exact ((rowPre_made _ _ _ _).alloc _).congr (fun i _ => by simp)
  have R2 : Hid (rowPre ((W1.alloc (Obj.cells (madeCells #[.bool false] m) 4)).alloc (Obj.cells (madeCells #[.int .i64 0] m) 3)) (p1 + 1) 3 m (fun i => if i < 0 then (fun k => .int .i64 (cnt k : Nat)) i else .int .i64 0)) := by
    have h := (rowPre_made (W1.alloc (Obj.cells (madeCells #[.bool false] m) 4)) 3 (.int .i64 0) m).congr (g := fun i => if i < 0 then (fun k => .int .i64 (cnt k : Nat)) i else .int .i64 0) (fun i _ => by simp)
    have e : (W1.alloc (Obj.cells (madeCells #[.bool false] m) 4)).heap.size = p1 + 1 := by subst hp1; simp
    rwa [e] at h
  rw [← hp1]
  have HW1 : Hid (W.heap.size ≤ p1) := by subst hp1; exact HB1.out.size
  have HP1 : Hid (p1 = W1.heap.size) := hp1
  clear hp1
  generalize (W1.alloc (Obj.cells (madeCells #[.bool false] m) 4)).alloc (Obj.cells (madeCells #[.int .i64 0] m) 3) = W2 at *
  have hsr : ∀ {a : Option Addr} {k : Nat} {X : Nat → ByteArray}, Strs W a k X → ∃ g : Nat, 0 < k → a = some ⟨g, 0, none⟩ ∧ ∀ wx : World, Below p1 W1 wx → ∀ i, i < k → wx.cell? ⟨g, i, none⟩ = some (.string (X i)) := by
    intro a k X h
    rcases h with rfl | ⟨g, rfl, h⟩
    · exact ⟨0, fun h => absurd h (by omega)⟩
    · refine ⟨g, fun _ => ⟨rfl, fun wx hx i hi => ?_⟩⟩
      have h0 := h i hi
      have h1 := block_lt_of_cell h0
      rw [hx.cell (p := ⟨g, i, none⟩) (by have := HW1.out; omega), HB1.out.cell (p := ⟨g, i, none⟩) h1]
      exact h0
  obtain ⟨gP, hgP⟩ := hsr HP.out
  obtain ⟨gQ, hgQ⟩ := hsr HQ.out
  obtain ⟨gR, hgR⟩ := hsr HR.out
  have GP : Hid _ := hgP
  have GQ : Hid _ := hgQ
  have GR : Hid _ := hgR
  clear hgP hgQ hgR hsr
  have hpk : ∀ k, k < m → ∃ (b : Nat) (f : Lit → Option Value) (blk : Nat) (g : Lit → Option Value), o = some b ∧ f (sk (P k)) = some (im blk) ∧ Card g (cnt k) ∧ ∀ wx : World, Below p1 W1 wx → MapIs wx b (psum L N) f ∧ MapIs wx blk (psum L N) g := by
    intro k hk
    obtain ⟨g, hg, hcd⟩ := HPP.out k hk
    rcases HO.out with ⟨_, h⟩ | ⟨b, rfl, h⟩
    · rw [h] at hg; cases hg
    · obtain ⟨f, h1, h2⟩ := h.at
      obtain ⟨blk, h3, h4⟩ := h2 _ g hg
      refine ⟨b, f, blk, g, rfl, h3, hcd, fun wx hx => ⟨h1.below hx ?_, h4.below hx ?_⟩⟩
      · have := h1.lt; have := HP1.out; omega
      · have := h4.lt; have := HP1.out; omega
  have HPK : Hid _ := hpk
  clear hpk HPP
  go_wp2_with fail
  go_loopg [134] m (fun k s134 wr => ∃ j : Nat, k = m - j ∧ j ≤ m ∧ s134 = .int .i64 (j : Nat) ∧ rowPre wr p1 4 m (fun i => if i < j then (fun _ => .bool true) i else .bool false) ∧ rowPre wr (p1 + 1) 3 m (fun i => if i < j then (fun k => .int .i64 (cnt k : Nat)) i else .int .i64 0) ∧ Below p1 W1 wr)
  case atStart => exact ⟨0, rfl, by omega, rfl, R1.out, R2.out, B2.out⟩
  case round =>
    obtain ⟨j, hk, hjm, rfl, hr1, hr2, hbl⟩ := hrel
    have HK : Hid _ := hk
    have HR1 : Hid (rowPre wr p1 4 m (fun i => if i < j then (fun _ => .bool true) i else .bool false)) := hr1
    have HR2 : Hid (rowPre wr (p1 + 1) 3 m (fun i => if i < j then (fun k => .int .i64 (cnt k : Nat)) i else .int .i64 0)) := hr2
    have HBL : Hid (Below p1 W1 wr) := hbl
    clear hk hr1 hr2 hbl
    by_cases hj : j < m
    · have hjI : (j : Int) < (m : Int) := by omega
      obtain ⟨rfl, hcell⟩ := GP.out (by omega)
      obtain ⟨b, f, blk, g, rfl, hf, hcd, hmp⟩ := HPK.out j hj
      have gc := hcell wr HBL.out j hj
      have hmm := hmp wr HBL.out
      have HMB : Hid (MapIs wr b (psum L N) f) := hmm.1
      have HCD : Hid (Card g (cnt j)) := hcd
      have HMP : Hid (∀ wx : World, Below p1 W1 wx → MapIs wx b (psum L N) f ∧ MapIs wx blk (psum L N) g) := hmp
      have c1 := HR1.out.cell hj
      have z1 := HR1.out.frozen j
      have ham := assert_map
      simp only [Nat.lt_irrefl, if_false] at c1
      clear hcell hmm hcd hmp
      go_upto_region 27 with (first | (at_lookup; refine wpList_look _ rfl _ _ 44 20 rfl Try.underlying44 .nilIface (zero20 _) b (psum L N) f rfl HMB.out (P j) (ZP.out j) rfl ?_))
      have r1 := HR1.out.put hj (v := .bool true) rfl
      have r2 := HR2.out.setOther (a := ⟨p1, j, none⟩) (by show p1 + 1 ≠ p1; omega) (.bool true)
      have bl := Below.setAt HBL.out (Nat.le_refl p1) j (.bool true)
      generalize wr.setCell ⟨p1, j, none⟩ (.bool true) = W3 at *
      have S1 : Hid (rowPre W3 p1 4 m (fun i => if i < j + 1 then (fun _ => .bool true) i else .bool false)) := r1
      have S2 : Hid (rowPre W3 (p1 + 1) 3 m (fun i => if i < j then (fun k => .int .i64 (cnt k : Nat)) i else .int .i64 0)) := r2
      have S3 : Hid (Below p1 W1 W3) := bl
      have c2 := r2.cell hj
      have z2 := r2.frozen j
      simp only [Nat.lt_irrefl, if_false] at c2
      have HM3 : Hid (MapIs W3 blk (psum L N) g) := (HMP.out W3 bl).2
      clear r1 r2 bl c1 z1 gc
      go_wp2_with (first | (at_len; refine wpList_mlen _ rfl _ 44 20 rfl Try.underlying44 blk (psum L N) g rfl HM3.out (cnt j) HCD.out ?_))
      go_roundg (m - (j + 1))
      case measure => have := HK.out; omega
      case rel =>
        exact ⟨j + 1, by omega, by omega, by go_num, S1.out.setOther (a := ⟨p1 + 1, j, none⟩) (by show p1 ≠ p1 + 1; omega) _, S2.out.put hj rfl, Below.setAt S3.out (by omega) j _⟩
    · have hjI : ¬ (j : Int) < (m : Int) := by omega
      obtain rfl : j = m := by omega
      have hqk : ∀ k, k < q → ∃ (b : Nat) (f : Lit → Option Value) (blk : Nat) (g : Lit → Option Value), o = some b ∧ f (sk (Qo k)) = some (im blk) ∧ g (sk (Qi k)) = some (is (Sv k)) ∧ ∀ wx : World, Below p1 W1 wx → MapIs wx b (psum L N) f ∧ MapIs wx blk (psum L N) g := by
        intro k hk
        obtain ⟨g, hg, hcd⟩ := HQQ.out k hk
        rcases HO.out with ⟨_, h⟩ | ⟨b, rfl, h⟩
        · rw [h] at hg; cases hg
        · obtain ⟨f, h1, h2⟩ := h.at
          obtain ⟨blk, h3, h4⟩ := h2 _ g hg
          refine ⟨b, f, blk, g, rfl, h3, hcd, fun wx hx => ⟨h1.below hx ?_, h4.below hx ?_⟩⟩
          · have := h1.lt; have := HP1.out; omega
          · have := h4.lt; have := HP1.out; omega
      have HQK : Hid _ := hqk
      clear hqk HQQ HPK
      go_upto_region 31 with fail
      obtain ⟨p3, hp3⟩ : ∃ p3, p3 = wr.heap.size := ⟨_, rfl⟩
      have hp13 : p1 + 1 < p3 := by subst hp3; exact HR2.out.lt
      have R3 : Hid (rowPre ((wr.alloc (Obj.cells (madeCells #[.bool false] q) 4)).alloc (Obj.cells (madeCells #[.string ByteArray.empty] q) 9)) p3 4 q (fun i => if i < 0 then (fun _ => .bool true) i else .bool false)) := by
        subst hp3; exact ((rowPre_made _ _ _ _).alloc _).congr (fun i _ => by simp)
      have R4 : Hid (rowPre ((wr.alloc (Obj.cells (madeCells #[.bool false] q) 4)).alloc (Obj.cells (madeCells #[.string ByteArray.empty] q) 9)) (p3 + 1) 9 q (fun i => if i < 0 then (fun k => .string (Sv k)) i else .string ByteArray.empty)) := by
        have h := (rowPre_made (wr.alloc (Obj.cells (madeCells #[.bool false] q) 4)) 9 (.string ByteArray.empty) q).congr (g := fun i => if i < 0 then (fun k => .string (Sv k)) i else .string ByteArray.empty) (fun i _ => by simp)
        have e : (wr.alloc (Obj.cells (madeCells #[.bool false] q) 4)).heap.size = p3 + 1 := by subst hp3; simp
        rwa [e] at h
      have hsz := HBL.out.size
      have R5 : Hid (Below p3 wr ((wr.alloc (Obj.cells (madeCells #[.bool false] q) 4)).alloc (Obj.cells (madeCells #[.string ByteArray.empty] q) 9))) := by
        subst hp3; exact ((Below.refl _ _).alloc (Nat.le_refl _) _).alloc (by simp) _
      rw [← hp3]
      clear hp3
      generalize (wr.alloc (Obj.cells (madeCells #[.bool false] q) 4)).alloc (Obj.cells (madeCells #[.string ByteArray.empty] q) 9) = W4 at *
      have hbt : ∀ wx : World, Below p3 wr wx → Below p1 W1 wx := fun wx hx => HBL.out.trans ⟨hx.os, hx.tape, hx.output, hx.size, fun k hk => hx.block k (by omega)⟩
      have HBT : Hid (∀ wx : World, Below p3 wr wx → Below p1 W1 wx) := hbt
      clear hbt
      obtain ⟨wA, hwA⟩ : ∃ wA, wA = wr := ⟨_, rfl⟩
      subst hwA
      go_wp2_with fail
      go_loopg [165] q (fun k s165 wx => ∃ i : Nat, k = q - i ∧ i ≤ q ∧ s165 = .int .i64 (i : Nat) ∧ rowPre wx p3 4 q (fun x => if x < i then (fun _ => .bool true) x else .bool false) ∧ rowPre wx (p3 + 1) 9 q (fun x => if x < i then (fun k => .string (Sv k)) x else .string ByteArray.empty) ∧ Below p3 wA wx)
      case atStart => exact ⟨0, rfl, by omega, rfl, R3.out, R4.out, R5.out⟩
      case round =>
        obtain ⟨i, hk2, hiq, rfl, hr1, hr2, hbl⟩ := hrel
        have HK2 : Hid _ := hk2
        have HS1 : Hid (rowPre wr p3 4 q (fun x => if x < i then (fun _ => .bool true) x else .bool false)) := hr1
        have HS2 : Hid (rowPre wr (p3 + 1) 9 q (fun x => if x < i then (fun k => .string (Sv k)) x else .string ByteArray.empty)) := hr2
        have HBL2 : Hid (Below p3 wA wr) := hbl
        clear hk2 hr1 hr2 hbl R3 R4 R5
        by_cases hi : i < q
        · have hiI : (i : Int) < (q : Int) := by omega
          obtain ⟨rfl, hcellQ⟩ := GQ.out (by omega)
          obtain ⟨rfl, hcellR⟩ := GR.out (by omega)
          obtain ⟨b, f, blk, g, rfl, hf, hgv, hmp⟩ := HQK.out i hi
          have hb1 := HBT.out wr HBL2.out
          have gcQ := hcellQ wr hb1 i hi
          have gcR := hcellR wr hb1 i hi
          have hmm := hmp wr hb1
          have HMB : Hid (MapIs wr b (psum L N) f) := hmm.1
          have HMG : Hid (MapIs wr blk (psum L N) g) := hmm.2
          have c1 := HS1.out.cell hi
          have z1 := HS1.out.frozen i
          have ham := assert_map
          have has := assert_str
          simp only [Nat.lt_irrefl, if_false] at c1
          clear hcellQ hcellR hmm hmp hb1
          go_upto_region 38 with (first
            | (at_lookup; refine wpList_look _ rfl _ _ 44 20 rfl Try.underlying44 .nilIface (zero20 _) b (psum L N) f rfl HMB.out (Qo i) (ZQ.out i) rfl ?_)
            | (at_lookup; refine wpList_lookOk _ rfl _ _ 44 20 rfl Try.underlying44 .nilIface (zero20 _) blk (psum L N) g rfl HMG.out (Qi i) (ZR.out i) rfl ?_))
          have r1 := HS1.out.put hi (v := .bool true) rfl
          have r2 := HS2.out.setOther (a := ⟨p3, i, none⟩) (by show p3 + 1 ≠ p3; omega) (.bool true)
          have bl := Below.setAt HBL2.out (Nat.le_refl p3) i (.bool true)
          generalize wr.setCell ⟨p3, i, none⟩ (.bool true) = W5 at *
          have S1 : Hid (rowPre W5 p3 4 q (fun x => if x < i + 1 then (fun _ => .bool true) x else .bool false)) := r1
          have S2 : Hid (rowPre W5 (p3 + 1) 9 q (fun x => if x < i then (fun k => .string (Sv k)) x else .string ByteArray.empty)) := r2
          have S3 : Hid (Below p3 wA W5) := bl
          have c2 := r2.cell hi
          have z2 := r2.frozen i
          simp only [Nat.lt_irrefl, if_false] at c2
          clear r1 r2 bl c1 z1 gcQ gcR
          go_wp2_with fail
          go_roundg (q - (i + 1))
          case measure => have := HK2.out; omega
          case rel =>
            exact ⟨i + 1, by omega, by omega, by go_num, S1.out.setOther (a := ⟨p3 + 1, i, none⟩) (by show p3 ≠ p3 + 1; omega) _, S2.out.put hi rfl, Below.setAt S3.out (by omega) i _⟩
        · have hiI : ¬ (i : Int) < (q : Int) := by omega
          obtain rfl : i = q := by omega
          have hq1 := nil44
          have hfin : ∀ nb : Bool, (nb = decide (c = 0)) → EnPost w0 j i cnt Sv c (.returned (.tuple #[.slice (some ⟨p1, 0, none⟩) j j, .slice (some ⟨p1 + 1, 0, none⟩) j j, .slice (some ⟨p3, 0, none⟩) i i, .slice (some ⟨p3 + 1, 0, none⟩) i i, .int .i64 (c : Nat), .bool nb])) wr := by
            rintro nb rfl
            refine ⟨p1, p1 + 1, p3, p3 + 1, rfl, fun k hk => ?_, fun k hk => ?_, fun k hk => ?_, fun k hk => ?_, ?_⟩
            · rw [HBL2.out.cell (p := ⟨p1, k, none⟩) (by show p1 < p3; omega), HR1.out.cell hk, if_pos hk]
            · rw [HBL2.out.cell (p := ⟨p1 + 1, k, none⟩) (by show p1 + 1 < p3; omega), HR2.out.cell hk, if_pos hk]
            · rw [HS1.out.cell hk, if_pos hk]
            · rw [HS2.out.cell hk, if_pos hk]
            · have h1 := HBT.out wr HBL2.out
              have h2 := HW1.out
              have h3 := HW0.out.size
              exact (HW0.out.trans ⟨HB1.out.os, HB1.out.tape, HB1.out.output, HB1.out.size, fun k hk => HB1.out.block k (by omega)⟩).trans ⟨h1.os, h1.tape, h1.output, h1.size, fun k hk => h1.block k (by omega)⟩
          have HFin : Hid _ := hfin
          clear hfin
          rcases Classical.em (o = none) with rfl | hon
          · have hc0 : c = 0 := by
              rcases HO.out with ⟨_, h⟩ | ⟨b, hb, _⟩
              · obtain ⟨l, _, rfl, l3⟩ := HC.out
                cases l with
                | nil => rfl
                | cons x r => have := (l3 x).1 (by simp); rw [h x] at this; cases this
              · cases hb
            go_wp2_with (first | (at_len; refine wpList_mlen_nil _ rfl _ rfl rfl ?_))
            refine bodyPost_ret (results_tmp6 rfl _ _ _) rfl ?_
            subst hc0
            exact HFin.out true rfl
          · have hc0 : c ≠ 0 := by
              obtain ⟨k, hk⟩ := HFu.out hon
              obtain ⟨l, _, rfl, l3⟩ := HC.out
              have := (l3 k).2 (by cases e : foldD Fd N k with | none => exact absurd e hk | some _ => rfl)
              intro e
              rw [List.length_eq_zero_iff.1 e] at this
              cases this
            rcases HO.out with ⟨h, _⟩ | ⟨b, rfl, h⟩
            · exact absurd h hon
            · obtain ⟨f, h1, h2⟩ := h.card HC.out
              have HMF : Hid (MapIs wr b (psum L N) f) := h1.below (HBT.out wr HBL2.out) (by have := h1.lt; have := HP1.out; omega)
              have HCF : Hid (Card f c) := h2
              have HC0 : Hid (c ≠ 0) := hc0
              clear h1 h2 h hc0 hon
              go_wp2_with (first | (at_len; refine wpList_mlen _ rfl _ 44 20 rfl Try.underlying44 b (psum L N) f rfl HMF.out c HCF.out ?_))
              refine bodyPost_ret (results_tmp6 rfl _ _ _) rfl ?_
              exact HFin.out false (by have := HC0.out; simp [this])
end Go.Proofs.Qxb6604637a
