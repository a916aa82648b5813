/- ZZEffectiveNested. -/
import Derived.Test.Qxb6604637aEnB
import Derived.Lib.SliceRun
import Derived.StillTailTactics
namespace Go.Proofs.Qxb6604637a
open Go.RowKit Go.Maps Go.MapKept Go.WideMaps Go.ChangeMaps
set_option linter.unusedVariables false

theorem Strs.below {w w' : World} {a : Option Addr} {m : Nat} {P : Nat → ByteArray} (h : Strs w a m P) (hB : Below w.heap.size w w') : Strs w' a m P := by
  rcases h with rfl | ⟨g, rfl, h⟩
  · exact .inl rfl
  · refine .inr ⟨g, rfl, fun k hk => ?_⟩
    rw [hB.cell (block_lt_of_cell (h k hk))]
    exact h k hk
theorem Strs.of_rows {w : World} {a : Option Addr} {m : Nat} {P : Nat → ByteArray} (g : Nat) (ha : 0 < m → a = some ⟨g, 0, none⟩) (h : ∀ k, k < m → w.cell? ⟨g, k, none⟩ = some (.string (P k))) : Strs w a m P := by
  by_cases e : m = 0
  · exact .inl e
  · exact .inr ⟨g, ha (by omega), h⟩

/-- rows in blocks of their own -/
def Rows (w : World) (a : Option Addr) (N : Nat) (L : Nat → Nat) (V : Nat → Nat → Value) : Prop :=
  ∃ (g : Nat) (A : Nat → Option Nat) (C : Nat → Nat), (0 < N → a = some ⟨g, 0, none⟩) ∧ ∀ i, i < N → w.cell? ⟨g, i, none⟩ = some (.slice ((A i).map fun r => ⟨r, 0, none⟩) (L i) (C i)) ∧ (A i = none → L i = 0) ∧ ∀ r, A i = some r → ∀ j, j < L i → w.cell? ⟨r, j, none⟩ = some (V i j)

/-- what is read of row i: its own cell, and the cells behind it -/
structure RowAt (w : World) (a : Option Addr) (N i l : Nat) (V : Nat → Value) (g : Nat) (A : Option Nat) (c : Nat) : Prop where
  addr : a = some ⟨g, 0, none⟩
  cell : w.cell? ⟨g, i, none⟩ = some (.slice (A.map fun r => ⟨r, 0, none⟩) l c)
  zero : A = none → l = 0
  elem : ∀ r, A = some r → ∀ j, j < l → w.cell? ⟨r, j, none⟩ = some (V j)
theorem Rows.at {w : World} {a : Option Addr} {N : Nat} {L : Nat → Nat} {V : Nat → Nat → Value} (h : Rows w a N L V) {i : Nat} (hi : i < N) : ∃ g A c, ∀ wx, Below w.heap.size w wx → RowAt wx a N i (L i) (V i) g A c := by
  obtain ⟨g, A, C, h0, h⟩ := h
  obtain ⟨h1, h2, h3⟩ := h i hi
  refine ⟨g, A i, C i, fun wx hx => ⟨h0 (by omega), ?_, h2, fun r hr j hj => ?_⟩⟩
  · rw [hx.cell (block_lt_of_cell h1)]; exact h1
  · rw [hx.cell (block_lt_of_cell (h3 r hr j hj))]; exact h3 r hr j hj

/-- an entry laid into an object -/
def addE (b : Bool) (x v : ByteArray) (g : Lit → Option Value) : Lit → Option Value := if b then g else upd g (sk x) (some (is v))
/-- the document of row i after its first j entries -/
def docF (O I V : Nat → Nat → ByteArray) (B : Nat → Nat → Bool) (i : Nat) : Nat → Doc
  | 0 => fun _ => none
  | j + 1 => fun k => if k.sameKey (sk (O i j)) then some (addE (B i j) (I i j) (V i j) ((docF O I V B i j (sk (O i j))).getD (fun _ => none))) else docF O I V B i j k

/-- a document that is being built in block m0 -/
def DocB (w : World) (m0 j : Nat) (F : Doc) (co : Lit → Option Nat) (h : Lit → Option Value) : Prop :=
  MapIs w m0 j h ∧ (∀ k, h k = (co k).map im) ∧ (∀ k, Inn w j (co k) (F k)) ∧ (∀ k b, co k = some b → m0 < b) ∧ ∀ k k' b, co k = some b → co k' = some b → k = k'

theorem DocB.old {w w' : World} {m0 j : Nat} {F : Doc} {co : Lit → Option Nat} {h : Lit → Option Value} (H : DocB w m0 j F co h) {s : ByteArray} {b : Nat} (hb : co (sk s) = some b) {g : Lit → Option Value} (hg : MapIs w' b (j + 1) g) (hst : StrOnly g)
    (e : ∀ x, x < w.heap.size → x ≠ b → w'.heap[x]? = w.heap[x]?) : DocB w' m0 (j + 1) (fun k => if k.sameKey (sk s) then some g else F k) co h := by
  obtain ⟨h1, h2, h3, h4, h5⟩ := H
  refine ⟨(h1.of_block (e m0 h1.lt ?_)).mono (by omega), h2, fun k => ?_, h4, h5⟩
  · have := h4 _ _ hb; omega
  · cases ek : k.sameKey (sk s) with
    | true =>
      obtain rfl := (sameKey_iff (isKey_sk s)).1 ek
      simp only [ek, if_true]
      rw [hb]
      refine ⟨rfl, fun b' g' e1 e2 => ?_⟩
      cases e1; cases e2
      exact ⟨hg, hst⟩
    | false =>
      simp only [ek, Bool.false_eq_true, if_false]
      refine ((h3 k).of_block fun b' hb' => e b' ((h3 k).lt hb') ?_).mono (by omega)
      rintro rfl
      have := h5 _ _ _ hb' hb
      rw [this, (sameKey_iff (isKey_sk s)).2 rfl] at ek
      cases ek
theorem DocB.new {w w' : World} {m0 j : Nat} {F : Doc} {co : Lit → Option Nat} {h : Lit → Option Value} (H : DocB w m0 j F co h) {s : ByteArray} {nb : Nat} (hb : w.heap.size ≤ nb) (hm : MapIs w' m0 (j + 1) (upd h (sk s) (some (im nb)))) {g : Lit → Option Value} (hg : MapIs w' nb (j + 1) g) (hst : StrOnly g)
    (e : ∀ x, x < w.heap.size → x ≠ m0 → w'.heap[x]? = w.heap[x]?) : DocB w' m0 (j + 1) (fun k => if k.sameKey (sk s) then some g else F k) (fun k => if k.sameKey (sk s) then some nb else co k) (upd h (sk s) (some (im nb))) := by
  obtain ⟨h1, h2, h3, h4, h5⟩ := H
  have hlt := h1.lt
  refine ⟨hm, fun k => ?_, fun k => ?_, fun k b hk => ?_, fun k k' b hk hk' => ?_⟩
  · simp only [upd]
    cases ek : k.sameKey (sk s) with
    | true => simp
    | false => simpa using h2 k
  · cases ek : k.sameKey (sk s) with
    | true =>
      simp only [ek, if_true]
      refine ⟨rfl, fun b' g' e1 e2 => ?_⟩
      cases e1; cases e2
      exact ⟨hg, hst⟩
    | false =>
      simp only [ek, Bool.false_eq_true, if_false]
      refine ((h3 k).of_block fun b' hb' => e b' ((h3 k).lt hb') ?_).mono (by omega)
      have := h4 _ _ hb'
      omega
  · cases ek : k.sameKey (sk s) with
    | true => simp only [ek, if_true, Option.some.injEq] at hk; omega
    | false => simp only [ek, Bool.false_eq_true, if_false] at hk; exact h4 _ _ hk
  · cases ek : k.sameKey (sk s) with
    | true =>
      cases ek' : k'.sameKey (sk s) with
      | true => rw [(sameKey_iff (isKey_sk s)).1 ek, (sameKey_iff (isKey_sk s)).1 ek']
      | false =>
        simp only [ek, if_true, Option.some.injEq] at hk
        simp only [ek', Bool.false_eq_true, if_false] at hk'
        have := (h3 k').lt hk'
        omega
    | false =>
      simp only [ek, Bool.false_eq_true, if_false] at hk
      cases ek' : k'.sameKey (sk s) with
      | true =>
        simp only [ek', if_true, Option.some.injEq] at hk'
        have := (h3 k).lt hk
        omega
      | false =>
        simp only [ek', Bool.false_eq_true, if_false] at hk'
        exact h5 _ _ _ hk hk'
theorem StrOnly.upd {g : Lit → Option Value} (h : StrOnly g) (x v : ByteArray) : StrOnly (upd g (sk x) (some (is v))) := by
  intro k u hu
  cases e : k.sameKey (sk x) with
  | true => simp [Qxb6604637a.upd, e] at hu; exact ⟨v, hu.symm⟩
  | false => simp [Qxb6604637a.upd, e] at hu; exact h k u hu
theorem StrOnly.none : StrOnly (fun _ => none) := fun _ _ h => by cases h

theorem makeMap_some (w : World) (n : Nat) (hn : n ≤ 9223372036854775807) : (Instr.makeMap 44 (some (.int .i64 (n : Nat)))).run Try.prog w = .ok (.map (some w.heap.size)) (w.alloc (.map #[] 0)) := by
  simp [Instr.makeMap, run_underlying Try.underlying44, asInt, go_sem, Result.andThen]

theorem Inn.kept {w w' : World} {n : Nat} {o : Option Nat} {x : Option (Lit → Option Value)} {row : Option Nat} (h : Inn w n o x) (hg : w.grownBy w' row) (hr : ∀ b, o = some b → some b ≠ row) : Inn w' n o x :=
  h.of_block fun b hb => hg.block b (h.lt hb) (hr b hb)
/-- completed documents stay while no map is touched -/
theorem DocO.keepMaps {w w' : World} {o : Option Nat} {n : Nat} {F : Doc} (h : DocO w o n F) (e : ∀ (b : Nat) (es : Array MapEntry) (cl : Nat), w.heap[b]? = some (Obj.map es cl) → w'.heap[b]? = w.heap[b]?) : DocO w' o n F := by
  have hm : ∀ {b n f}, MapIs w b n f → MapIs w' b n f := fun {b n f} h => by
    have h0 := h
    obtain ⟨D, ⟨es, cl, hb, _⟩, _⟩ := h0
    exact h.of_block (e b es cl hb)
  rcases h with h | ⟨b, rfl, c, h1, h2⟩
  · exact .inl h
  · exact .inr ⟨b, rfl, c, hm h1, fun k => ⟨(h2 k).1, fun b g hb hg => ⟨hm ((h2 k).2 b g hb hg).1, ((h2 k).2 b g hb hg).2⟩⟩⟩
theorem keep_setCell {w : World} {d : Nat} {t : TypeId} {n : Nat} {f : Nat → Value} (h : rowPre w d t n f) (i : Nat) (v : Value) : ∀ (b : Nat) (es : Array MapEntry) (cl : Nat), w.heap[b]? = some (Obj.map es cl) → (w.setCell ⟨d, i, none⟩ v).heap[b]? = w.heap[b]? := by
  intro b es cl hb
  refine Below.heap_setCell _ _ _ _ ?_
  rintro rfl
  obtain ⟨c, hc, _⟩ := h
  rw [hb] at hc
  cases hc

set_option maxHeartbeats 16000000 in
set_option maxRecDepth 100000 in
theorem zzEn (w : World) (aO aI aB aV aP aQ aR : Option Addr) (m q N cO cI cB cV cP cQ cR : Nat) (O I V : Nat → Nat → ByteArray) (B : Nat → Nat → Bool) (P Qo Qi Sv : Nat → ByteArray) (cnt : Nat → Nat) (c : Nat) (L : Nat → Nat)
    (hN : N ≤ 1048576) (hL : ∀ i, L i ≤ 1048576) (hm : m ≤ 1048576) (hq : q ≤ 1048576) (hs : psum L N < maxLen)
    (hO : Rows w aO N L (fun i j => .string (O i j))) (hI : Rows w aI N L (fun i j => .string (I i j))) (hB : Rows w aB N L (fun i j => .bool (B i j))) (hV : Rows w aV N L (fun i j => .string (V i j)))
    (zO : ∀ i j, (O i j).size ≤ maxLen) (zI : ∀ i j, (I i j).size ≤ maxLen)
    (hP : Strs w aP m P) (hQ : Strs w aQ q Qo) (hR : Strs w aR q Qi) (zP : ∀ k, (P k).size ≤ maxLen) (zQ : ∀ k, (Qo k).size ≤ maxLen) (zR : ∀ k, (Qi k).size ≤ maxLen)
    (hp : ∀ k, k < m → ∃ g, foldD (fun i => docF O I V B i (L i)) N (sk (P k)) = some g ∧ Card g (cnt k)) (hqq : ∀ k, k < q → ∃ g, foldD (fun i => docF O I V B i (L i)) N (sk (Qo k)) = some g ∧ g (sk (Qi k)) = some (is (Sv k))) (hc : CardD (foldD (fun i => docF O I V B i (L i)) N) c) :
    Calls Try.prog 15 #[.slice aO N cO, .slice aI N cI, .slice aB N cB, .slice aV N cV, .slice aP m cP, .slice aQ q cQ, .slice aR q cR] w (EnPost w m q cnt Sv c) := by
  have HO : Hid (Rows w aO N L (fun i j => .string (O i j))) := hO
  have HI : Hid (Rows w aI N L (fun i j => .string (I i j))) := hI
  have HBB : Hid (Rows w aB N L (fun i j => .bool (B i j))) := hB
  have HV : Hid (Rows w aV N L (fun i j => .string (V i j))) := hV
  have ZO : Hid (∀ i j, (O i j).size ≤ maxLen) := zO
  have ZI : Hid (∀ i j, (I i j).size ≤ maxLen) := zI
  have HP : Hid (Strs w aP m P) := hP
  have HQ : Hid (Strs w aQ q Qo) := hQ
  have HR : Hid (Strs w aR q Qi) := hR
  have ZP : Hid (∀ k, (P k).size ≤ maxLen) := zP
  have ZQ : Hid (∀ k, (Qo k).size ≤ maxLen) := zQ
  have ZR : Hid (∀ k, (Qi k).size ≤ maxLen) := zR
  have HPP : Hid (∀ k, k < m → ∃ g, foldD (fun i => docF O I V B i (L i)) N (sk (P k)) = some g ∧ Card g (cnt k)) := hp
  have HQQ : Hid (∀ k, k < q → ∃ g, foldD (fun i => docF O I V B i (L i)) N (sk (Qo k)) = some g ∧ g (sk (Qi k)) = some (is (Sv k))) := hqq
  have HC : Hid (CardD (foldD (fun i => docF O I V B i (L i)) N) c) := hc
  have HLL : Hid (∀ i, L i ≤ 1048576) := hL
  have hmk1 := fun w => run_make_row' (P := Try.prog) 43 44 (.map none) 8 Try.underlying43 Try.info44c rfl .i64 .i64 N (by omega) (by omega) w
  have hnil := fun (w : World) (a : Option Addr) (n c : Nat) => Lib.run_eql_slice_nil (P := Try.prog) w 25 9 a n c 0 0 Try.underlying25
  clear hO hI hB hV zO zI hP hQ hR zP zQ zR hp hqq hc hL
  go_enter Try.func15, Try.ntmps15
  go_upto_region 2 with fail
  obtain ⟨d, hd⟩ : ∃ d, d = w.heap.size := ⟨_, rfl⟩
  have R1 : Hid (rowPre (w.alloc (Obj.cells (madeCells #[.map none] N) 44)) d 44 N (fun x => .map ((fun _ => none) x))) := by subst hd; exact rowPre_made _ _ _ _
  have B1 : Hid (Below w.heap.size w (w.alloc (Obj.cells (madeCells #[.map none] N) 44))) := (Below.refl _ _).alloc (Nat.le_refl _) _
  rw [← hd]
  have HD : Hid (d = w.heap.size) := hd
  clear hd
  generalize w.alloc (Obj.cells (madeCells #[.map none] N) 44) = W1 at *
  go_wp2_with fail
  go_loopg [46] N (fun k s46 wr => ∃ (i : Nat) (od : Nat → Option Nat), k = N - i ∧ i ≤ N ∧ s46 = .int .i64 (i : Nat) ∧ rowPre wr d 44 N (fun x => .map (od x)) ∧ (∀ x, x < i → DocO wr (od x) (L x) (docF O I V B x (L x))) ∧ (∀ x, i ≤ x → od x = none) ∧ Below w.heap.size w wr)
  case atStart => exact ⟨0, fun _ => none, rfl, by omega, rfl, R1.out, fun x hx => by omega, fun _ _ => rfl, B1.out⟩
  case round =>
    obtain ⟨i, od, hk, hiN, rfl, hr, hdoc, hod, hbl⟩ := hrel
    have HK : Hid _ := hk
    have HR1 : Hid (rowPre wr d 44 N (fun x => .map (od x))) := hr
    have HDOC : Hid (∀ x, x < i → DocO wr (od x) (L x) (docF O I V B x (L x))) := hdoc
    have HOD : Hid (∀ x, i ≤ x → od x = none) := hod
    have HBL : Hid (Below w.heap.size w wr) := hbl
    clear hk hr hdoc hod hbl
    by_cases hi : i < N
    · have hiI : (i : Int) < (N : Int) := by omega
      obtain ⟨gO, AO, kO, hrO⟩ := HO.out.at hi
      have rO := hrO wr HBL.out
      obtain rfl := rO.addr
      cases AO with
      | none =>
        have hL0 := rO.zero rfl
        have gc := rO.cell
        simp only [Option.map_none] at gc
        clear rO hrO
        go_wp2_with fail
        go_roundg (N - (i + 1))
        case measure => have := HK.out; omega
        case rel =>
          refine ⟨i + 1, od, by omega, by omega, by go_num, HR1.out, fun x hx => ?_, fun x hx => HOD.out x (by omega), HBL.out⟩
          by_cases e : x = i
          · subst e
            rw [HOD.out x (by omega), hL0]
            exact .inl ⟨rfl, fun _ => rfl⟩
          · exact HDOC.out x (by omega)
      | some ro =>
        have gc := rO.cell
        simp only [Option.map_some] at gc
        have RO : Hid (∀ wx, Below w.heap.size w wx → RowAt wx (some ⟨gO, 0, none⟩) N i (L i) (fun j => .string (O i j)) gO (some ro) kO) := hrO
        have hLi := HLL.out i
        have hmm := fun w => makeMap_some w (L i) (by omega)
        have hmm2 := @run_makeMap Try.prog
        clear rO hrO
        go_upto_region 7 with fail
        obtain ⟨m0, hm0⟩ : ∃ m0, m0 = wr.heap.size := ⟨_, rfl⟩
        have hwm : w.heap.size ≤ m0 := by subst hm0; exact HBL.out.size
        have DB0 : Hid (DocB (wr.alloc (.map #[] 0)) m0 0 (docF O I V B i 0) (fun _ => none) (fun _ => none)) := by
          subst hm0
          exact ⟨MapIs.made _, fun _ => rfl, fun _ => ⟨rfl, fun b g h => (by cases h)⟩, fun k b h => (by cases h), fun k k' b h => (by cases h)⟩
        have BI0 : Hid (Below m0 wr (wr.alloc (.map #[] 0))) := by subst hm0; exact (Below.refl _ _).alloc (Nat.le_refl _) _
        rw [← hm0]
        obtain ⟨wI, hwI⟩ : ∃ wI, wI = wr := ⟨_, rfl⟩
        subst hwI
        have HM0 : Hid (m0 = wI.heap.size) := hm0
        have hdm : d < m0 := by subst hm0; exact HR1.out.lt
        clear hm0
        generalize wI.alloc (.map #[] 0) = W2 at *
        have hbi : ∀ wx, Below m0 wI wx → Below w.heap.size w wx := fun wx hx => HBL.out.trans ⟨hx.os, hx.tape, hx.output, hx.size, fun k hk => hx.block k (by omega)⟩
        have HBI : Hid (∀ wx, Below m0 wI wx → Below w.heap.size w wx) := hbi
        have gc2 : W2.cell? ⟨gO, i, none⟩ = some (.slice (some ⟨ro, 0, none⟩) (L i) kO) := (RO.out W2 (hbi W2 BI0.out)).cell
        clear hbi gc
        go_wp2_with fail
        clear gc2
        go_loopg [65] (L i) (fun k s65 wr => ∃ (j : Nat) (co : Lit → Option Nat) (h : Lit → Option Value), k = L i - j ∧ j ≤ L i ∧ s65 = .int .i64 (j : Nat) ∧ DocB wr m0 j (docF O I V B i j) co h ∧ Below m0 wI wr)
        case atStart => exact ⟨0, _, _, rfl, by omega, rfl, DB0.out, BI0.out⟩
        case round =>
          obtain ⟨j, co, h, hk2, hjL, rfl, hdb, hbl2⟩ := hrel
          have HK2 : Hid _ := hk2
          have HDB : Hid (DocB wr m0 j (docF O I V B i j) co h) := hdb
          have HBL2 : Hid (Below m0 wI wr) := hbl2
          have HW : Hid (Below w.heap.size w wr) := HBI.out wr hbl2
          clear hk2 hdb hbl2 DB0 BI0
          by_cases hj : j < L i
          · have hjI : (j : Int) < (L i : Int) := by omega
            have rO := RO.out wr HW.out
            have gO1 := rO.cell
            have gO2 := rO.elem ro rfl j hj
            obtain ⟨gB, AB, kB, hrB⟩ := HBB.out.at hi
            have rB := hrB wr HW.out
            obtain rfl := rB.addr
            cases AB with
            | none => exact absurd (rB.zero rfl) (by omega)
            | some rb =>
              have gB1 := rB.cell
              have gB2 := rB.elem rb rfl j hj
              simp only [Option.map_some] at gO1 gB1
              have RB : Hid (∀ wx, Below w.heap.size w wx → RowAt wx (some ⟨gB, 0, none⟩) N i (L i) (fun j => .bool (B i j)) gB (some rb) kB) := hrB
              clear rO rB hrB
              have hm0 := HDB.out.1
              have HMD : Hid (MapIs wr m0 j h) := hm0
              have hq1 := nil44
              have ham := assert_map
              have han := assert_map_nil
              have hjm : j < maxLen := by have := psum_mono L (show i + 1 ≤ N by omega); simp only [psum] at this; omega
              clear hm0
              cases hco : co (sk (O i j)) with
              | none =>
                have hh : h (sk (O i j)) = none := by rw [HDB.out.2.1, hco]; rfl
                have hF : docF O I V B i j (sk (O i j)) = none := (HDB.out.2.2.1 _).none_iff.1 hco
                go_upto_region 13 with (first
                  | (at_lookup; refine wpList_look _ rfl _ _ 44 20 rfl Try.underlying44 .nilIface (zero20 _) m0 j h rfl HMD.out (O i j) (ZO.out i j) rfl ?_))
                obtain ⟨nb, hnb⟩ : ∃ nb, nb = wr.heap.size := ⟨_, rfl⟩
                have M3 : Hid (MapIs (wr.alloc (.map #[] 0)) nb 0 (fun _ => none)) := by subst hnb; exact MapIs.made _
                have D3 : Hid (MapIs (wr.alloc (.map #[] 0)) m0 j h) := HMD.out.alloc _
                have hmlt := HMD.out.lt
                have B3 : Hid (Below wr.heap.size wr (wr.alloc (.map #[] 0))) := (Below.refl _ _).alloc (Nat.le_refl _) _
                rw [← hnb] at hmlt ⊢
                have HNB : Hid (nb = wr.heap.size) := hnb
                clear hnb
                have gO1' : (wr.alloc (.map #[] 0)).cell? ⟨gO, i, none⟩ = some (.slice (some ⟨ro, 0, none⟩) (L i) kO) := by rw [B3.out.cell (block_lt_of_cell gO1)]; exact gO1
                have gO2' : (wr.alloc (.map #[] 0)).cell? ⟨ro, j, none⟩ = some (.string (O i j)) := by rw [B3.out.cell (block_lt_of_cell gO2)]; exact gO2
                clear gO1 gO2
                generalize wr.alloc (.map #[] 0) = W3 at *
                go_upto_region 14 with (first
                  | (at_mapUpdate; refine wpList_store _ rfl _ _ _ 44 20 rfl Try.underlying44 m0 j h rfl D3.out hjm (O i j) (ZO.out i j) (im nb) rfl rfl ?_; intro w4 hm4 hg4 hs4))
                have B4 : Hid (∀ x, x < wr.heap.size → x ≠ m0 → w4.heap[x]? = wr.heap[x]?) := fun x h1 h2 => by
                  rw [hg4.block x (by have := B3.out.size; omega) (by simp; omega), B3.out.block x h1]
                have M4 : Hid (MapIs w4 nb 0 (fun _ => none)) := M3.out.kept hg4 (by simp; omega)
                have D4 : Hid (MapIs w4 m0 (j + 1) (upd h (sk (O i j)) (some (im nb)))) := hm4
                have BW4 : Hid (Below m0 wI w4) := by
                  have h1 := HBL2.out
                  have h2 : Below m0 wI W3 := h1.trans ⟨B3.out.os, B3.out.tape, B3.out.output, B3.out.size, fun k hk => B3.out.block k (by have := HBL2.out.size; have := HM0.out; omega)⟩
                  exact h2.grown hg4 (by have := h2.size; have := HM0.out; omega) (fun j hj => by cases hj; exact Nat.le_refl _)
                have HW4 : Hid (Below w.heap.size w w4) := HBI.out w4 BW4.out
                have hfr4 : w4.heap.size = W3.heap.size := hs4
                obtain ⟨gB1', gB2'⟩ : w4.cell? ⟨gB, i, none⟩ = some (.slice (some ⟨rb, 0, none⟩) (L i) kB) ∧ w4.cell? ⟨rb, j, none⟩ = some (.bool (B i j)) := by
                  have h1 := RB.out w4 HW4.out
                  have h2 := h1.cell
                  simp only [Option.map_some] at h2
                  exact ⟨h2, h1.elem rb rfl j hj⟩
                clear gB1 gB2 gO1' gO2' hm4 hg4 hs4
                cases hB : B i j with
                | true =>
                  rw [hB] at gB2'
                  go_wp2_with fail
                  go_roundg (L i - (j + 1))
                  case measure => have := HK2.out; omega
                  case rel =>
                    refine ⟨j + 1, _, _, by omega, by omega, by go_num, HDB.out.new (s := O i j) (nb := nb) (g := addE (B i j) (I i j) (V i j) ((docF O I V B i j (sk (O i j))).getD (fun _ => none))) (by have := HNB.out; omega) D4.out ?_ ?_ B4.out, BW4.out⟩
                    · rw [hB, hF]; exact M4.out.mono (by omega)
                    · rw [hB, hF]; exact StrOnly.none
                | false =>
                  rw [hB] at gB2'
                  obtain ⟨gI, AI, kI, hrI⟩ := HI.out.at hi
                  have rI := hrI w4 HW4.out
                  obtain rfl := rI.addr
                  obtain ⟨gV, AV, kV, hrV⟩ := HV.out.at hi
                  have rV := hrV w4 HW4.out
                  obtain rfl := rV.addr
                  cases AI with
                  | none => exact absurd (rI.zero rfl) (by omega)
                  | some ri => ?_
                  cases AV with
                  | none => exact absurd (rV.zero rfl) (by omega)
                  | some rv => ?_
                  have gI1 := rI.cell
                  have gI2 := rI.elem ri rfl j hj
                  have gV1 := rV.cell
                  have gV2 := rV.elem rv rfl j hj
                  simp only [Option.map_some] at gI1 gV1
                  clear rI rV hrI hrV
                  go_upto_region 15 with fail
                  go_still_tail 16, (by kernel_rfl)
                  refine wpList_store _ rfl _ _ _ 44 20 rfl Try.underlying44 nb 0 (fun _ => none) rfl (M4.out.of_block rfl) (by omega) (I i j) (ZI.out i j) (is (V i j)) rfl rfl ?_
                  intro w5 hm5 hg5 hs5
                  have hgo5 : World.grownBy w4 w5 (some nb) := ⟨hg5.os, hg5.tape, hg5.output, hg5.size, hg5.block⟩
                  have hg5' : ∀ x, x < w4.heap.size → x ≠ nb → w5.heap[x]? = w4.heap[x]? := fun x h1 h2 => hgo5.block x h1 (by simp; omega)
                  have hs5 : w5.heap.size = w4.heap.size := hs5
                  clear hg5 gI1 gI2 gV1 gV2
                  have D5 : Hid (MapIs w5 m0 (j + 1) (upd h (sk (O i j)) (some (im nb)))) := D4.out.of_block (hg5' m0 (by have := D4.out.lt; omega) (by omega))
                  have BW5 : Hid (Below m0 wI w5) := BW4.out.trans ⟨hgo5.os, hgo5.tape, hgo5.output, hgo5.size, fun k hk => hg5' k (by have := BW4.out.size; have := HM0.out; omega) (by omega)⟩
                  have B5 : Hid (∀ x, x < wr.heap.size → x ≠ m0 → w5.heap[x]? = wr.heap[x]?) := fun x h1 h2 => by
                    rw [hg5' x (by have := B3.out.size; omega) (by have := HNB.out; omega), B4.out x h1 h2]
                  have M5 : Hid (MapIs w5 nb (0 + 1) (upd (fun _ => none) (sk (I i j)) (some (is (V i j))))) := hm5
                  clear hm5 hg5' hgo5 hs5
                  go_wp2_with fail
                  go_roundg (L i - (j + 1))
                  case measure => have := HK2.out; omega
                  case rel =>
                    refine ⟨j + 1, _, _, by omega, by omega, by go_num, HDB.out.new (s := O i j) (nb := nb) (g := addE (B i j) (I i j) (V i j) ((docF O I V B i j (sk (O i j))).getD (fun _ => none))) (by have := HNB.out; omega) D5.out ?_ ?_ B5.out, BW5.out⟩
                    · rw [hB, hF]; exact M5.out.mono (by omega)
                    · rw [hB, hF]; exact StrOnly.none.upd _ _
              | some b =>
                have hh : h (sk (O i j)) = some (im b) := by rw [HDB.out.2.1, hco]; rfl
                obtain ⟨g, hF⟩ : ∃ g, docF O I V B i j (sk (O i j)) = some g := by
                  have := (HDB.out.2.2.1 (sk (O i j))).1
                  rw [hco] at this
                  exact Option.isSome_iff_exists.1 this.symm
                have hIg := (HDB.out.2.2.1 _).2 b g hco hF
                have MG : Hid (MapIs wr b j g) := hIg.1
                have SG : Hid (StrOnly g) := hIg.2
                have HCO : Hid (co (sk (O i j)) = some b) := hco
                have hmb := HDB.out.2.2.2.1 _ _ hco
                clear hIg hco
                go_upto_region 14 with (first
                  | (at_lookup; refine wpList_look _ rfl _ _ 44 20 rfl Try.underlying44 .nilIface (zero20 _) m0 j h rfl HMD.out (O i j) (ZO.out i j) rfl ?_))
                cases hB : B i j with
                | true =>
                  rw [hB] at gB2
                  go_wp2_with fail
                  go_roundg (L i - (j + 1))
                  case measure => have := HK2.out; omega
                  case rel =>
                    refine ⟨j + 1, _, _, by omega, by omega, by go_num, HDB.out.old (s := O i j) (b := b) (g := addE (B i j) (I i j) (V i j) ((docF O I V B i j (sk (O i j))).getD (fun _ => none))) HCO.out ?_ ?_ (fun _ _ _ => rfl), HBL2.out⟩
                    · rw [hB, hF]; exact MG.out.mono (by omega)
                    · rw [hB, hF]; exact SG.out
                | false =>
                  rw [hB] at gB2
                  obtain ⟨gI, AI, kI, hrI⟩ := HI.out.at hi
                  have rI := hrI wr HW.out
                  obtain rfl := rI.addr
                  obtain ⟨gV, AV, kV, hrV⟩ := HV.out.at hi
                  have rV := hrV wr HW.out
                  obtain rfl := rV.addr
                  cases AI with
                  | none => exact absurd (rI.zero rfl) (by omega)
                  | some ri => ?_
                  cases AV with
                  | none => exact absurd (rV.zero rfl) (by omega)
                  | some rv => ?_
                  have gI1 := rI.cell
                  have gI2 := rI.elem ri rfl j hj
                  have gV1 := rV.cell
                  have gV2 := rV.elem rv rfl j hj
                  simp only [Option.map_some] at gI1 gV1
                  clear rI rV hrI hrV
                  go_upto_region 15 with fail
                  go_still_tail 16, (by kernel_rfl)
                  refine wpList_store _ rfl _ _ _ 44 20 rfl Try.underlying44 b j g rfl (MG.out.of_block rfl) (by omega) (I i j) (ZI.out i j) (is (V i j)) rfl rfl ?_
                  intro w5 hm5 hg5 hs5
                  have hgo5 : World.grownBy wr w5 (some b) := ⟨hg5.os, hg5.tape, hg5.output, hg5.size, hg5.block⟩
                  have hg5' : ∀ x, x < wr.heap.size → x ≠ b → w5.heap[x]? = wr.heap[x]? := fun x h1 h2 => hgo5.block x h1 (by simp; omega)
                  have hs5 : w5.heap.size = wr.heap.size := hs5
                  clear hg5 gI1 gI2 gV1 gV2
                  have BW5 : Hid (Below m0 wI w5) := HBL2.out.trans ⟨hgo5.os, hgo5.tape, hgo5.output, hgo5.size, fun k hk => hg5' k (by have := HBL2.out.size; have := HM0.out; omega) (by omega)⟩
                  have B5 : Hid (∀ x, x < wr.heap.size → x ≠ b → w5.heap[x]? = wr.heap[x]?) := hg5'
                  have M5 : Hid (MapIs w5 b (j + 1) (upd g (sk (I i j)) (some (is (V i j))))) := hm5
                  clear hm5 hg5' hgo5 hs5
                  go_wp2_with fail
                  go_roundg (L i - (j + 1))
                  case measure => have := HK2.out; omega
                  case rel =>
                    refine ⟨j + 1, _, _, by omega, by omega, by go_num, HDB.out.old (s := O i j) (b := b) (g := addE (B i j) (I i j) (V i j) ((docF O I V B i j (sk (O i j))).getD (fun _ => none))) HCO.out ?_ ?_ B5.out, BW5.out⟩
                    · rw [hB, hF]; exact M5.out
                    · rw [hB, hF]; exact SG.out.upd _ _
          · have hjI : ¬ (j : Int) < (L i : Int) := by omega
            obtain rfl : j = L i := by omega
            have RD : Hid (rowPre wr d 44 N (fun x => .map (od x))) := HR1.out.of_block (HBL2.out.block d hdm)
            have c1 := RD.out.cell hi
            have z1 := RD.out.frozen i
            go_wp2_with fail
            go_roundg (N - (i + 1))
            case measure => have := HK.out; omega
            case rel =>
              have hkm := keep_setCell RD.out i (.map (some m0))
              refine ⟨i + 1, fun x => if x = i then some m0 else od x, by omega, by omega, by go_num, (RD.out.set i _).congr (fun x _ => ?_), fun x hx => ?_, fun x hx => ?_, HW.out.setCell (by have := HD.out; show w.heap.size ≤ d; omega) _⟩
              · by_cases e : x = i <;> simp [e]
              · by_cases e : x = i
                · subst e
                  simp only [if_true]
                  exact DocO.keepMaps (.inr ⟨m0, rfl, co, HDB.out.1.congr HDB.out.2.1, HDB.out.2.2.1⟩) hkm
                · simp only [e, if_false]
                  have hb0 : Below wI.heap.size wI wr := by have := HBL2.out; rwa [HM0.out] at this
                  exact ((HDOC.out x (by omega)).below hb0).keepMaps hkm
              · show (if x = i then some m0 else od x) = none
                rw [if_neg (by omega)]
                exact HOD.out x (by omega)
    · have hiI : ¬ (i : Int) < (N : Int) := by omega
      obtain rfl : i = N := by omega
      go_upto_if 47 with fail
      go_step
      go_step
      go_step
      go_step
      exact enB w wr HBL.out aP aQ aR (some ⟨d, 0, none⟩) m q i cP cQ cR i P Qo Qi Sv cnt c od L (fun i => docF O I V B i (L i)) hN hm hq d rfl (fun x hx => HR1.out.cell hx) HDOC.out hs (HP.out.below HBL.out) (HQ.out.below HBL.out) (HR.out.below HBL.out) ZP.out ZQ.out ZR.out HPP.out HQQ.out HC.out
end Go.Proofs.Qxb6604637a
