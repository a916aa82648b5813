/- zzCloneRows, zzCloneBoolRows. -/
import Derived.Test.Qxb6604637aBy
import Derived.Test.Qxb6604637aEn
import Derived.Laws.CopyOwn
namespace Go.Proofs.Qxb6604637a
open Go.RowKit
set_option linter.unusedVariables false

theorem Try.info25c : (Try.prog.info? 25).map (fun i => (i.zero, i.size, i.bytes)) = some (some (.slice none 0 0), 1, 24) := by kernel_rfl
theorem Try.info30c : (Try.prog.info? 30).map (fun i => (i.zero, i.size, i.bytes)) = some (some (.slice none 0 0), 1, 24) := by kernel_rfl
theorem Try.size9c : (Try.prog.info? 9).map (·.size) = some 1 := by kernel_rfl
theorem Try.size4c : (Try.prog.info? 4).map (·.size) = some 1 := by kernel_rfl

/-- what a clone of rows leaves -/
def ClPost (w : World) (N : Nat) (L : Nat → Nat) (V : Nat → Nat → Value) (e : Ending) (w' : World) : Prop := ∃ a' c', e = .returned (.slice a' N c') ∧ Rows w' a' N L V ∧ Below w.heap.size w w'

/-- a row's own cell -/
def cellOf (R : Option Nat) (l : Nat) : Value := match R with | none => .slice none 0 0 | some r => .slice (some ⟨r, 0, none⟩) l l

/-- the rows that are copied so far -/
def Copied (w : World) (d i : Nat) (R : Nat → Option Nat) (L : Nat → Nat) (V : Nat → Nat → Value) : Prop :=
  ∀ x, x < i → (R x = none → L x = 0) ∧ ∀ r, R x = some r → d < r ∧ r < w.heap.size ∧ ∀ j, j < L x → w.cell? ⟨r, j, none⟩ = some (V x j)
theorem Copied.of_block {w w' : World} {d i : Nat} {R : Nat → Option Nat} {L : Nat → Nat} {V : Nat → Nat → Value} (h : Copied w d i R L V) (hs : w.heap.size ≤ w'.heap.size) (e : ∀ r, d < r → r < w.heap.size → w'.heap[r]? = w.heap[r]?) : Copied w' d i R L V := by
  intro x hx
  obtain ⟨h1, h2⟩ := h x hx
  refine ⟨h1, fun r hr => ?_⟩
  obtain ⟨h3, h4, h5⟩ := h2 r hr
  refine ⟨h3, by omega, fun j hj => ?_⟩
  rw [World.cell?_of_block (w := w) (a := ⟨r, j, none⟩) (e r h3 h4)]
  exact h5 j hj
theorem Copied.rows {w : World} {d N : Nat} {R : Nat → Option Nat} {L : Nat → Nat} {V : Nat → Nat → Value} {t : TypeId} (h : Copied w d N R L V) (hr : rowPre w d t N (fun x => cellOf (R x) (L x))) : Rows w (some ⟨d, 0, none⟩) N L V := by
  refine ⟨d, R, fun x => match R x with | none => 0 | some _ => L x, fun _ => rfl, fun i hi => ⟨?_, (h i hi).1, fun r hr j hj => ((h i hi).2 r hr).2.2 j hj⟩⟩
  rw [hr.cell hi]
  cases e : R i with
  | none => simp [cellOf, e, (h i hi).1 e]
  | some r => simp [cellOf, e]


set_option maxHeartbeats 4000000 in
set_option maxRecDepth 100000 in
theorem cloneRows_any (w : World) (a : Option Addr) (N c : Nat) (A : Nat → Option Addr) (L C : Nat → Nat) (V : Nat → Nat → ByteArray) (h : InRows w a N A L C (fun i j => .string (V i j))) (hN : N ≤ 1048576) (hL : ∀ i, i < N → L i ≤ 1048576) :
    Calls Try.prog 8 #[.slice a N c] w (ClPost w N L (fun i j => .string (V i j))) := by
  have H : Hid (InRows w a N A L C (fun i j => .string (V i j))) := h
  have HL : Hid (∀ i, i < N → L i ≤ 1048576) := hL
  have hnil := fun (w : World) (a : Option Addr) (n c : Nat) => Lib.run_eql_slice_nil (P := Try.prog) w 22 25 a n c 0 0 Try.underlying22
  have hnil2 := fun (w : World) (a : Option Addr) (n c : Nat) => Lib.run_eql_slice_nil (P := Try.prog) w 25 9 a n c 0 0 Try.underlying25
  have hmk := fun w => run_make_row' (P := Try.prog) 22 25 (.slice none 0 0) 24 Try.underlying22 Try.info25c rfl .i64 .i64 N (by omega) (by omega) w
  clear h hL
  cases a with
  | none =>
    have hN0 := H.out.nil rfl
    subst hN0
    go_enter Try.func8, Try.ntmps8
    go_wp2_with fail
    go_ret
    exact ⟨none, 0, rfl, ⟨0, fun _ => none, fun _ => 0, fun h => absurd h (by omega), fun i hi => absurd hi (by omega)⟩, Below.refl _ _⟩
  | some x =>
    go_enter Try.func8, Try.ntmps8
    go_upto_region 4 with fail
    obtain ⟨d, hd⟩ : ∃ d, d = w.heap.size := ⟨_, rfl⟩
    have R1 : Hid (rowPre (w.alloc (Obj.cells (madeCells #[.slice none 0 0] N) 25)) d 25 N (fun x => cellOf ((fun _ => none) x) (L x))) := by subst hd; exact rowPre_made _ _ _ _
    have B1 : Hid (Below w.heap.size w (w.alloc (Obj.cells (madeCells #[.slice none 0 0] N) 25))) := (Below.refl _ _).alloc (Nat.le_refl _) _
    rw [← hd]
    have HD : Hid (d = w.heap.size) := hd
    clear hd
    generalize w.alloc (Obj.cells (madeCells #[.slice none 0 0] N) 25) = W1 at *
    go_wp2_with fail
    go_loopg [4] N (fun k s4 wr => ∃ (i : Nat) (R : Nat → Option Nat), k = N - i ∧ i ≤ N ∧ s4 = .int .i64 (i : Nat) ∧ rowPre wr d 25 N (fun x => cellOf (R x) (L x)) ∧ (∀ x, i ≤ x → R x = none) ∧ Copied wr d i R L (fun i j => .string (V i j)) ∧ Below w.heap.size w wr)
    case atStart => exact ⟨0, fun _ => none, rfl, by omega, rfl, R1.out, fun _ _ => rfl, fun x hx => absurd hx (by omega), B1.out⟩
    case round =>
      obtain ⟨i, R, hk, hi, rfl, hr, hR, hcp, hbl⟩ := hrel
      have HK : Hid _ := hk
      have HR : Hid (rowPre wr d 25 N (fun x => cellOf (R x) (L x))) := hr
      have HRN : Hid (∀ x, i ≤ x → R x = none) := hR
      have HCP : Hid (Copied wr d i R L (fun i j => .string (V i j))) := hcp
      have HB : Hid (Below w.heap.size w wr) := hbl
      clear hk hr hR hcp hbl
      by_cases hiN : i < N
      · have hiI : (i : Int) < (N : Int) := by omega
        have gw := H.out.cell x rfl i hiN
        have gc : wr.cell? (x.add i) = some (.slice (A i) (L i) (C i)) := by rw [HB.out.cell (block_lt_of_cell gw)]; exact gw
        clear gw
        obtain ⟨Ai, hAi⟩ : ∃ Ai, Ai = A i := ⟨_, rfl⟩
        rw [← hAi] at gc
        have HAI : Hid (A i = Ai) := hAi.symm
        clear hAi
        cases Ai with
        | none =>
          have hL0 := H.out.zero i hiN HAI.out
          go_wp2_with fail
          go_roundg (N - (i + 1))
          case measure => have := HK.out; omega
          case rel =>
            refine ⟨i + 1, R, by omega, by omega, by go_num, HR.out, fun y hy => HRN.out y (by omega), fun y hy => ?_, HB.out⟩
            by_cases e : y = i
            · subst e
              exact ⟨fun _ => hL0, fun r hr => by rw [HRN.out y (by omega)] at hr; cases hr⟩
            · exact HCP.out y (by omega)
        | some y =>
          have hLi := HL.out i hiN
          obtain ⟨l, hl⟩ : ∃ l, l = L i := ⟨_, rfl⟩
          have HLE : Hid (l = L i) := hl
          rw [← hl] at gc hLi
          clear hl
          have hmk2 := fun w => run_make_row' (P := Try.prog) 25 9 (.string ByteArray.empty) 16 Try.underlying25 Try.info9c rfl .i64 .i64 l (by omega) (by omega) w
          go_upto_region 9 with fail
          obtain ⟨r, hr⟩ : ∃ r, r = wr.heap.size := ⟨_, rfl⟩
          have b1 := (Below.refl wr.heap.size wr).alloc (Nat.le_refl _) (Obj.cells (madeCells #[(.string ByteArray.empty)] l) 9)
          have r1 : (wr.alloc (Obj.cells (madeCells #[(.string ByteArray.empty)] l) 9)).heap[wr.heap.size]? = some (.cells (madeCells #[(.string ByteArray.empty)] l).toList.toArray 9 (0, 0)) := by rw [heap_alloc_new]
          have hml : (madeCells #[(.string ByteArray.empty)] l).toList.length = l := by simp [madeCells]
          have gc2 : (wr.alloc (Obj.cells (madeCells #[(.string ByteArray.empty)] l) 9)).cell? (x.add i) = some (.slice (some y) l (C i)) := by rw [b1.cell (block_lt_of_cell gc)]; exact gc
          rw [← hr] at b1 r1 ⊢
          have HRE : Hid (r = wr.heap.size) := hr
          clear hr
          generalize wr.alloc (Obj.cells (madeCells #[(.string ByteArray.empty)] l) 9) = W at *
          generalize (madeCells #[(.string ByteArray.empty)] l).toList = cur at *
          obtain ⟨cs, hcs⟩ : ∃ cs, cs = tab l (fun j => .string (V i j)) := ⟨_, rfl⟩
          have hlen : cs.length = l := by rw [hcs, tab_length]
          have hone : ∀ v ∈ cs, v.oneCell' = true := fun v hv => by rw [hcs] at hv; obtain ⟨j, _, rfl⟩ := tab_mem hv; rfl
          have HCS : Hid (cs = tab l (fun j => .string (V i j))) := hcs
          clear hcs
          have hmin : cs.length = Nat.min l l := by rw [hlen]; exact (Nat.min_self l).symm
          have hfit : 0 + cs.length ≤ cur.length := by omega
          have hpos : 0 < cs.length → (some (⟨r, 0, none⟩ : Addr) = some ⟨r, 0, none⟩) ∧ ∃ ad, some y = some ad ∧ ∀ j v, cs[j]? = some v → W.cell? (ad.add j) = some v := fun _ => ⟨rfl, y, rfl, fun j v hv => by
            rw [HCS.out] at hv
            obtain ⟨h1, rfl⟩ := tab_some hv
            have h0 := H.out.elem i hiN y HAI.out j (by have := HLE.out; omega)
            have h2 : wr.cell? (y.add j) = some (.string (V i j)) := by rw [HB.out.cell (block_lt_of_cell h0)]; exact h0
            rw [b1.cell (p := y.add j) (by rw [HRE.out]; exact block_lt_of_cell h2)]
            exact h2⟩
          have HP : Hid _ := hpos
          clear hpos gc
          go_upto_region 10 with (first | (refine wpList_copy_splice rfl _ _ 25 25 rfl 9 Try.underlying25 Try.size9c (some ⟨r, 0, none⟩) (some y) l l l (C i) rfl rfl r 0 cur 9 r1 cs hmin HP.out hfit hone r wr b1 (Nat.le_refl _) ?_))
          intro W2 h2 b2
          have hrd : d < r := by rw [HRE.out]; exact HR.out.lt
          have HR2 : Hid (rowPre W2 d 25 N (fun x => cellOf (R x) (L x))) := HR.out.of_block (b2.block d hrd)
          have HW2 : Hid (∀ j, j < l → W2.cell? ⟨r, j, none⟩ = some (.string (V i j))) := fun j hj => by
            have e : (splice cur 0 cs)[j]? = some (.string (V i j)) := by
              unfold splice
              rw [List.take_zero, List.nil_append, List.getElem?_append_left (by omega), HCS.out]
              exact tab_get hj
            simp [World.cell?, h2.out, e]
          have HB2 : Hid (Below r wr W2) := b2
          have hrlt : r < W2.heap.size := by
            have := h2.out
            exact (Array.getElem?_eq_some_iff.1 this).1
          have c1 := HR2.out.cell hiN
          have z1 := HR2.out.frozen i
          simp only [HRN.out i (Nat.le_refl _), cellOf] at c1
          clear b1 r1 gc2 b2 h2
          go_wp2_with fail
          go_roundg (N - (i + 1))
          case measure => have := HK.out; omega
          case rel =>
            have hLl := HLE.out
            refine ⟨i + 1, fun x => if x = i then some r else R x, by omega, by omega, by go_num, (HR2.out.set i _).congr (fun z _ => ?_), fun z hz => ?_, fun z hz => ?_, ?_⟩
            · by_cases e : z = i
              · subst e
                simp only [if_true, cellOf, hLl]
              · simp only [e, if_false]
            · show (if z = i then some r else R z) = none
              rw [if_neg (by omega)]
              exact HRN.out z (by omega)
            · by_cases e : z = i
              · subst e
                simp only [if_true]
                refine ⟨fun h => (by cases h), fun r' hr' => ?_⟩
                cases hr'
                refine ⟨hrd, by show r < (W2.setCell _ _).heap.size; simpa [World.setCell] using hrlt, fun j hj => ?_⟩
                rw [World.cell?_of_block (w := W2) (a := ⟨r, j, none⟩) (Below.heap_setCell _ _ _ _ (by show r ≠ d; omega))]
                exact HW2.out j (by omega)
              · simp only [e, if_false]
                refine (Copied.of_block HCP.out ?_ (fun r' h1 h2 => ?_)) z (by omega)
                · have := HB2.out.size; show wr.heap.size ≤ (W2.setCell _ _).heap.size; simpa [World.setCell] using this
                · rw [Below.heap_setCell _ _ _ _ (by show r' ≠ d; omega), HB2.out.block r' (by rw [HRE.out]; exact h2)]
            · have hb3 : Below w.heap.size w W2 := HB.out.trans ⟨HB2.out.os, HB2.out.tape, HB2.out.output, HB2.out.size, fun k hk => HB2.out.block k (by have := HB.out.size; have := HRE.out; omega)⟩
              exact hb3.setCell (by have := HD.out; show w.heap.size ≤ d; omega) _
      · have hiI : ¬ (i : Int) < (N : Int) := by omega
        obtain rfl : i = N := by omega
        go_wp2_with fail
        go_ret
        exact ⟨some ⟨d, 0, none⟩, i, rfl, HCP.out.rows HR.out, HB.out⟩

set_option maxHeartbeats 4000000 in
set_option maxRecDepth 100000 in
theorem cloneBoolRows_any (w : World) (a : Option Addr) (N c : Nat) (A : Nat → Option Addr) (L C : Nat → Nat) (V : Nat → Nat → Bool) (h : InRows w a N A L C (fun i j => .bool (V i j))) (hN : N ≤ 1048576) (hL : ∀ i, i < N → L i ≤ 1048576) :
    Calls Try.prog 14 #[.slice a N c] w (ClPost w N L (fun i j => .bool (V i j))) := by
  have H : Hid (InRows w a N A L C (fun i j => .bool (V i j))) := h
  have HL : Hid (∀ i, i < N → L i ≤ 1048576) := hL
  have hnil := fun (w : World) (a : Option Addr) (n c : Nat) => Lib.run_eql_slice_nil (P := Try.prog) w 33 30 a n c 0 0 Try.underlying33
  have hnil2 := fun (w : World) (a : Option Addr) (n c : Nat) => Lib.run_eql_slice_nil (P := Try.prog) w 30 4 a n c 0 0 Try.underlying30
  have hmk := fun w => run_make_row' (P := Try.prog) 33 30 (.slice none 0 0) 24 Try.underlying33 Try.info30c rfl .i64 .i64 N (by omega) (by omega) w
  clear h hL
  cases a with
  | none =>
    have hN0 := H.out.nil rfl
    subst hN0
    go_enter Try.func14, Try.ntmps14
    go_wp2_with fail
    go_ret
    exact ⟨none, 0, rfl, ⟨0, fun _ => none, fun _ => 0, fun h => absurd h (by omega), fun i hi => absurd hi (by omega)⟩, Below.refl _ _⟩
  | some x =>
    go_enter Try.func14, Try.ntmps14
    go_upto_region 4 with fail
    obtain ⟨d, hd⟩ : ∃ d, d = w.heap.size := ⟨_, rfl⟩
    have R1 : Hid (rowPre (w.alloc (Obj.cells (madeCells #[.slice none 0 0] N) 30)) d 30 N (fun x => cellOf ((fun _ => none) x) (L x))) := by subst hd; exact rowPre_made _ _ _ _
    have B1 : Hid (Below w.heap.size w (w.alloc (Obj.cells (madeCells #[.slice none 0 0] N) 30))) := (Below.refl _ _).alloc (Nat.le_refl _) _
    rw [← hd]
    have HD : Hid (d = w.heap.size) := hd
    clear hd
    generalize w.alloc (Obj.cells (madeCells #[.slice none 0 0] N) 30) = W1 at *
    go_wp2_with fail
    go_loopg [4] N (fun k s4 wr => ∃ (i : Nat) (R : Nat → Option Nat), k = N - i ∧ i ≤ N ∧ s4 = .int .i64 (i : Nat) ∧ rowPre wr d 30 N (fun x => cellOf (R x) (L x)) ∧ (∀ x, i ≤ x → R x = none) ∧ Copied wr d i R L (fun i j => .bool (V i j)) ∧ Below w.heap.size w wr)
    case atStart => exact ⟨0, fun _ => none, rfl, by omega, rfl, R1.out, fun _ _ => rfl, fun x hx => absurd hx (by omega), B1.out⟩
    case round =>
      obtain ⟨i, R, hk, hi, rfl, hr, hR, hcp, hbl⟩ := hrel
      have HK : Hid _ := hk
      have HR : Hid (rowPre wr d 30 N (fun x => cellOf (R x) (L x))) := hr
      have HRN : Hid (∀ x, i ≤ x → R x = none) := hR
      have HCP : Hid (Copied wr d i R L (fun i j => .bool (V i j))) := hcp
      have HB : Hid (Below w.heap.size w wr) := hbl
      clear hk hr hR hcp hbl
      by_cases hiN : i < N
      · have hiI : (i : Int) < (N : Int) := by omega
        have gw := H.out.cell x rfl i hiN
        have gc : wr.cell? (x.add i) = some (.slice (A i) (L i) (C i)) := by rw [HB.out.cell (block_lt_of_cell gw)]; exact gw
        clear gw
        obtain ⟨Ai, hAi⟩ : ∃ Ai, Ai = A i := ⟨_, rfl⟩
        rw [← hAi] at gc
        have HAI : Hid (A i = Ai) := hAi.symm
        clear hAi
        cases Ai with
        | none =>
          have hL0 := H.out.zero i hiN HAI.out
          go_wp2_with fail
          go_roundg (N - (i + 1))
          case measure => have := HK.out; omega
          case rel =>
            refine ⟨i + 1, R, by omega, by omega, by go_num, HR.out, fun y hy => HRN.out y (by omega), fun y hy => ?_, HB.out⟩
            by_cases e : y = i
            · subst e
              exact ⟨fun _ => hL0, fun r hr => by rw [HRN.out y (by omega)] at hr; cases hr⟩
            · exact HCP.out y (by omega)
        | some y =>
          have hLi := HL.out i hiN
          obtain ⟨l, hl⟩ : ∃ l, l = L i := ⟨_, rfl⟩
          have HLE : Hid (l = L i) := hl
          rw [← hl] at gc hLi
          clear hl
          have hmk2 := fun w => run_make_row' (P := Try.prog) 30 4 (.bool false) 1 Try.underlying30 Try.info4c rfl .i64 .i64 l (by omega) (by omega) w
          go_upto_region 9 with fail
          obtain ⟨r, hr⟩ : ∃ r, r = wr.heap.size := ⟨_, rfl⟩
          have b1 := (Below.refl wr.heap.size wr).alloc (Nat.le_refl _) (Obj.cells (madeCells #[(.bool false)] l) 4)
          have r1 : (wr.alloc (Obj.cells (madeCells #[(.bool false)] l) 4)).heap[wr.heap.size]? = some (.cells (madeCells #[(.bool false)] l).toList.toArray 4 (0, 0)) := by rw [heap_alloc_new]
          have hml : (madeCells #[(.bool false)] l).toList.length = l := by simp [madeCells]
          have gc2 : (wr.alloc (Obj.cells (madeCells #[(.bool false)] l) 4)).cell? (x.add i) = some (.slice (some y) l (C i)) := by rw [b1.cell (block_lt_of_cell gc)]; exact gc
          rw [← hr] at b1 r1 ⊢
          have HRE : Hid (r = wr.heap.size) := hr
          clear hr
          generalize wr.alloc (Obj.cells (madeCells #[(.bool false)] l) 4) = W at *
          generalize (madeCells #[(.bool false)] l).toList = cur at *
          obtain ⟨cs, hcs⟩ : ∃ cs, cs = tab l (fun j => .bool (V i j)) := ⟨_, rfl⟩
          have hlen : cs.length = l := by rw [hcs, tab_length]
          have hone : ∀ v ∈ cs, v.oneCell' = true := fun v hv => by rw [hcs] at hv; obtain ⟨j, _, rfl⟩ := tab_mem hv; rfl
          have HCS : Hid (cs = tab l (fun j => .bool (V i j))) := hcs
          clear hcs
          have hmin : cs.length = Nat.min l l := by rw [hlen]; exact (Nat.min_self l).symm
          have hfit : 0 + cs.length ≤ cur.length := by omega
          have hpos : 0 < cs.length → (some (⟨r, 0, none⟩ : Addr) = some ⟨r, 0, none⟩) ∧ ∃ ad, some y = some ad ∧ ∀ j v, cs[j]? = some v → W.cell? (ad.add j) = some v := fun _ => ⟨rfl, y, rfl, fun j v hv => by
            rw [HCS.out] at hv
            obtain ⟨h1, rfl⟩ := tab_some hv
            have h0 := H.out.elem i hiN y HAI.out j (by have := HLE.out; omega)
            have h2 : wr.cell? (y.add j) = some (.bool (V i j)) := by rw [HB.out.cell (block_lt_of_cell h0)]; exact h0
            rw [b1.cell (p := y.add j) (by rw [HRE.out]; exact block_lt_of_cell h2)]
            exact h2⟩
          have HP : Hid _ := hpos
          clear hpos gc
          go_upto_region 10 with (first | (refine wpList_copy_splice rfl _ _ 30 30 rfl 4 Try.underlying30 Try.size4c (some ⟨r, 0, none⟩) (some y) l l l (C i) rfl rfl r 0 cur 4 r1 cs hmin HP.out hfit hone r wr b1 (Nat.le_refl _) ?_))
          intro W2 h2 b2
          have hrd : d < r := by rw [HRE.out]; exact HR.out.lt
          have HR2 : Hid (rowPre W2 d 30 N (fun x => cellOf (R x) (L x))) := HR.out.of_block (b2.block d hrd)
          have HW2 : Hid (∀ j, j < l → W2.cell? ⟨r, j, none⟩ = some (.bool (V i j))) := fun j hj => by
            have e : (splice cur 0 cs)[j]? = some (.bool (V i j)) := by
              unfold splice
              rw [List.take_zero, List.nil_append, List.getElem?_append_left (by omega), HCS.out]
              exact tab_get hj
            simp [World.cell?, h2.out, e]
          have HB2 : Hid (Below r wr W2) := b2
          have hrlt : r < W2.heap.size := by
            have := h2.out
            exact (Array.getElem?_eq_some_iff.1 this).1
          have c1 := HR2.out.cell hiN
          have z1 := HR2.out.frozen i
          simp only [HRN.out i (Nat.le_refl _), cellOf] at c1
          clear b1 r1 gc2 b2 h2
          go_wp2_with fail
          go_roundg (N - (i + 1))
          case measure => have := HK.out; omega
          case rel =>
            have hLl := HLE.out
            refine ⟨i + 1, fun x => if x = i then some r else R x, by omega, by omega, by go_num, (HR2.out.set i _).congr (fun z _ => ?_), fun z hz => ?_, fun z hz => ?_, ?_⟩
            · by_cases e : z = i
              · subst e
                simp only [if_true, cellOf, hLl]
              · simp only [e, if_false]
            · show (if z = i then some r else R z) = none
              rw [if_neg (by omega)]
              exact HRN.out z (by omega)
            · by_cases e : z = i
              · subst e
                simp only [if_true]
                refine ⟨fun h => (by cases h), fun r' hr' => ?_⟩
                cases hr'
                refine ⟨hrd, by show r < (W2.setCell _ _).heap.size; simpa [World.setCell] using hrlt, fun j hj => ?_⟩
                rw [World.cell?_of_block (w := W2) (a := ⟨r, j, none⟩) (Below.heap_setCell _ _ _ _ (by show r ≠ d; omega))]
                exact HW2.out j (by omega)
              · simp only [e, if_false]
                refine (Copied.of_block HCP.out ?_ (fun r' h1 h2 => ?_)) z (by omega)
                · have := HB2.out.size; show wr.heap.size ≤ (W2.setCell _ _).heap.size; simpa [World.setCell] using this
                · rw [Below.heap_setCell _ _ _ _ (by show r' ≠ d; omega), HB2.out.block r' (by rw [HRE.out]; exact h2)]
            · have hb3 : Below w.heap.size w W2 := HB.out.trans ⟨HB2.out.os, HB2.out.tape, HB2.out.output, HB2.out.size, fun k hk => HB2.out.block k (by have := HB.out.size; have := HRE.out; omega)⟩
              exact hb3.setCell (by have := HD.out; show w.heap.size ≤ d; omega) _
      · have hiI : ¬ (i : Int) < (N : Int) := by omega
        obtain rfl : i = N := by omega
        go_wp2_with fail
        go_ret
        exact ⟨some ⟨d, 0, none⟩, i, rfl, HCP.out.rows HR.out, HB.out⟩
end Go.Proofs.Qxb6604637a
