/- Laws on worlds for newShape's walk. -/
import Derived.Test.Qxb6602643aCo
import Derived.Test.Qxb6602643aKr
namespace Go.Proofs.Qxb6602643a
open Go.RowKit

/-- a boxed value: a new block of its cells -/
theorem wpList_box {P : Program} {ops : Array Oper} {rest : List Oper} {o : Oper} {a : Act} {w : World} {Q : Exit → Act → World → Prop} (hg : o.guard = none) (ty : TypeId) (x : Operand) (ho : o.op = .box ty x)
    (v : Value) (hv : a.eval x = v) (cs : Array Value) (hcs : v.cells = cs)
    (h : wpList P ops Q rest (a.put o.dst (.pointer (some ⟨w.heap.size, 0, none⟩))) (w.alloc (.cells cs ty))) : wpList P ops Q (o :: rest) a w := by
  refine wpList_plain hg fun K hK => ?_
  unfold Oper.wp execOp
  subst hcs
  simp only [ho, hv, Instr.box, newVar]
  simp [go_sem]
  exact hK _ _ h

/-- the zero value of a struct or an array, built -/
theorem wpList_build0 {P : Program} {ops : Array Oper} {rest : List Oper} {o : Oper} {a : Act} {w : World} {Q : Exit → Act → World → Prop} (hg : o.guard = none) (t : TypeId) (ho : o.op = .build t #[])
    (cells : Array Value) (hb : P.built t [] = some cells)
    (h : wpList P ops Q rest (a.put o.dst (.agg cells)) w) : wpList P ops Q (o :: rest) a w := by
  refine wpList_build hg t #[] ho ?_ ?_
  · simp [hb]
  · simpa [hb] using h

theorem Try.zero25 : (Try.prog.info? 25).map (fun i => i.zero.map Value.cells) = some (some (Array.replicate 33 (.int .i64 0))) := by kernel_rfl
def z65 : Array Value := Array.replicate 257 (.slice none 0 0) ++ Array.replicate 256 (.int .u64 0)
theorem Try.built65 : Try.prog.built 65 [] = some z65 := by kernel_rfl

/-- the cells of a shape: the nodes, the paths, the codes -/
def shF (nodes : Value) (pth : Nat → Value) (cod : Nat → Nat) (x : Nat) : Value :=
  if x = 0 then nodes else if x < 257 then pth (x - 1) else .int .u64 (cod (x - 257) : Nat)

theorem z65_row (i : Nat) (hi : i < 513) : z65[i]? = some (shF (.slice none 0 0) (fun _ => .slice none 0 0) (fun _ => 0) i) := by
  unfold z65 shF
  by_cases h : i < 257
  · rw [Array.getElem?_append_left (by simpa using h), Array.getElem?_replicate, if_pos h]
    by_cases h0 : i = 0
    · simp [h0]
    · simp [h0, h]
  · rw [Array.getElem?_append_right (by simpa using h)]
    simp [h, show i ≠ 0 from by omega, show i - 257 < 256 from by omega]

theorem shF_nodes (nodes : Value) (pth : Nat → Value) (cod : Nat → Nat) : shF nodes pth cod 0 = nodes := rfl
theorem shF_path (nodes : Value) (pth : Nat → Value) (cod : Nat → Nat) (c : Nat) (hc : c < 256) : shF nodes pth cod (1 + c) = pth c := by
  unfold shF; rw [if_neg (by omega), if_pos (by omega), show 1 + c - 1 = c from by omega]
theorem shF_code (nodes : Value) (pth : Nat → Value) (cod : Nat → Nat) (c : Nat) : shF nodes pth cod (257 + c) = .int .u64 (cod c : Nat) := by
  unfold shF; rw [if_neg (by omega), if_neg (by omega), show 257 + c - 257 = c from by omega]

/-- what newShape has laid beside the shape: the order, the counts of shorter codes -/
structure NsB (L : Nat → Nat) (w : World) (g M : Nat) (wr : World) : Prop where
  bel : Below w.heap.size w wr
  ord : wr.rowIs g 5 (lonT L 32) (fun i => .int .u8 (oc L i : Nat))
  lon : wr.rowIs M 25 33 (fun i => .int .i64 (lonT L i))
  hg : w.heap.size < g
  hgM : g < M

namespace NsB
variable {L : Nat → Nat} {w wr : World} {g M : Nat}
theorem drew (h : NsB L w g M wr) : NsB L w g M wr.drew := ⟨h.bel.drew, h.ord, h.lon, h.hg, h.hgM⟩
theorem drewN (h : NsB L w g M wr) (n : Nat) : NsB L w g M (wr.drewN n) := ⟨below_drewN h.bel n, rowIs_drewN h.ord n, rowIs_drewN h.lon n, h.hg, h.hgM⟩
theorem lt (h : NsB L w g M wr) : M < wr.heap.size := h.lon.lt
theorem alloc (h : NsB L w g M wr) (o : Obj) : NsB L w g M (wr.alloc o) := ⟨h.bel.alloc (by have := h.lt; have := h.hg; have := h.hgM; omega) o, h.ord.alloc o, h.lon.alloc o, h.hg, h.hgM⟩
theorem setCell (h : NsB L w g M wr) {a : Addr} (ha : a.block = w.heap.size ∨ M < a.block) (v : Value) : NsB L w g M (wr.setCell a v) :=
  ⟨h.bel.setCell (by have := h.hg; have := h.hgM; omega) v, h.ord.setOther (by have := h.hg; have := h.hgM; omega) v, h.lon.setOther (by have := h.hg; have := h.hgM; omega) v, h.hg, h.hgM⟩
theorem grown (h : NsB L w g M wr) {w' : World} {row : Option Nat} (hgr : wr.grownBy w' row) (hr : ∀ k, row = some k → M < k) : NsB L w g M w' :=
  ⟨h.bel.grown hgr (by have := h.lt; have := h.hg; have := h.hgM; omega) (fun k e => by have := hr k e; have := h.hg; have := h.hgM; omega),
   h.ord.of_block (hgr.block g h.ord.lt (fun e => by have := hr g e.symm; have := h.hgM; omega)),
   h.lon.of_block (hgr.block M h.lon.lt (fun e => by have := hr M e.symm; omega)), h.hg, h.hgM⟩
end NsB

/-- the codes that i positions have set -/
def codT (L : Nat → Nat) (i c : Nat) : Nat := if 1 ≤ L c ∧ posT L c < i then pr L (posT L c) (L c) else 0
/-- the code and the length that stand in newShape's variables behind i positions -/
def cdT (L : Nat → Nat) (i : Nat) : Nat := if i = 0 then 0 else pr L (i - 1) (ol L (i - 1))
def lnT (L : Nat → Nat) (i : Nat) : Nat := if i = 0 then 0 else ol L (i - 1)
/-- where position i's path begins -/
def offT (L : Nat → Nat) (i : Nat) : Nat := sumF (ol L) i

theorem codT_step (L : Nat → Nat) (i c : Nat) (hi : i < lonT L 32) (hc : c < 256) : codT L (i + 1) c = if c = oc L i then pr L i (ol L i) else codT L i c := by
  obtain ⟨h1, h2, h3, h4⟩ := oc_facts L i hi
  unfold codT
  by_cases e : c = oc L i
  · rw [if_pos e, e, h4, if_pos ⟨h2, Nat.lt_succ_self i⟩]
    unfold ol
    exact Eq.refl _
  · rw [if_neg e]
    by_cases hl : 1 ≤ L c
    · have : posT L c ≠ i := by
        intro x
        exact e (posT_inj L c (oc L i) hc hl h1 h2 (by rw [x, h4]))
      by_cases hp : posT L c < i
      · rw [if_pos ⟨hl, by omega⟩, if_pos ⟨hl, hp⟩]
      · rw [if_neg (by omega), if_neg (by omega)]
    · rw [if_neg (fun x => hl x.1), if_neg (fun x => hl x.1)]

theorem offT_le (L : Nat → Nat) (i : Nat) (hi : i ≤ lonT L 32) : offT L i ≤ 32 * i := by
  induction i with
  | zero => exact Nat.zero_le _
  | succ i ih =>
    have := ih (by omega)
    have := (oc_facts L i (by omega)).2.2.1
    have e : offT L (i + 1) = offT L i + ol L i := rfl
    omega

/-- the shift by which the next code is made -/
theorem code_step (L : Nat → Nat) (i : Nat) (hK : SK L (lonT L 32) ≤ 2 ^ 32) (hi : i < lonT L 32) :
    lnT L i ≤ ol L i ∧ (cdT L i + if 0 < i then 1 else 0) * 2 ^ (ol L i - lnT L i) = pr L i (ol L i) ∧ pr L i (ol L i) < 4294967296 ∧ cdT L i < 4294967296 := by
  have hb : ∀ j, j < lonT L 32 → pr L j (ol L j) < 4294967296 := fun j hj => by
    have h1 := pr_lt L j (ol L j) hK hj (oc_facts L j hj).2.2.1
    exact Nat.lt_of_lt_of_le h1 (Nat.le_trans (pow_le (oc_facts L j hj).2.2.1) (Nat.le_of_eq rfl))
  unfold lnT cdT
  cases i with
  | zero => rw [code_zero]; simp
  | succ i =>
    have h1 := code_next L i hi
    have h2 := ol_mono L i (i + 1) (by omega) hi
    simp only [Nat.add_one_sub_one, if_pos (show 0 < i + 1 from by omega), if_neg (show ¬ i + 1 = 0 from by omega)]
    exact ⟨h2, h1.symm, hb _ hi, hb _ (by omega)⟩

theorem shl_val (x l y P : Nat) (h : x * 2 ^ (l - y) = P) (hP : P < 4294967296) : IntKind.u64.wrap ((x : Int) * 2 ^ (l - y)) = (P : Int) := by
  rw [two_pow_cast, ← Int.natCast_mul, h]
  exact wrap_u64_nat P (by omega)
theorem shl_val1 (x l y P : Nat) (h : (x + 1) * 2 ^ (l - y) = P) (hP : P < 4294967296) : IntKind.u64.wrap (((x : Int) + 1) * 2 ^ (l - y)) = (P : Int) :=
  shl_val (x + 1) l y P h hP

theorem row_code {L : Nat → Nat} {wr : World} {N i : Nat} {nodes : Value} {pth : Nat → Value} (hi : i < lonT L 32) (h : wr.rowIs N 65 513 (shF nodes pth (codT L i))) :
    (wr.setCell ⟨N, 257 + oc L i, none⟩ (.int .u64 (pr L i (ol L i) : Nat))).rowIs N 65 513 (shF nodes pth (codT L (i + 1))) := by
  have hc := (oc_facts L i hi).1
  refine (h.set (257 + oc L i) _).congr ?_
  intro t ht
  unfold shF
  by_cases h0 : t = 0
  · rw [if_pos h0, if_pos h0, if_neg (by omega)]
  · rw [if_neg h0, if_neg h0]
    by_cases h1 : t < 257
    · rw [if_pos h1, if_pos h1, if_neg (by omega)]
    · rw [if_neg h1, if_neg h1, codT_step L i (t - 257) hi (by omega)]
      by_cases e : t = 257 + oc L i
      · rw [if_pos e, if_pos (by omega)]
      · rw [if_neg e, if_neg (by omega)]

theorem cdT_succ (L : Nat → Nat) (i : Nat) : cdT L (i + 1) = pr L i (ol L i) := by unfold cdT; rw [if_neg (by omega), Nat.add_one_sub_one]
theorem lnT_succ (L : Nat → Nat) (i : Nat) : lnT L (i + 1) = ol L i := by unfold lnT; rw [if_neg (by omega), Nat.add_one_sub_one]
theorem offT_succ (L : Nat → Nat) (i : Nat) : offT L (i + 1) = offT L i + ol L i := rfl
/-- the paths that i positions have been given -/
def pthT (L : Nat → Nat) (PB i c : Nat) : Value := if 1 ≤ L c ∧ posT L c < i then .slice (some ⟨PB, offT L (posT L c), none⟩) (L c) (L c) else .slice none 0 0

theorem pthT_step (L : Nat → Nat) (PB i c : Nat) (hi : i < lonT L 32) (hc : c < 256) : pthT L PB (i + 1) c = if c = oc L i then .slice (some ⟨PB, offT L i, none⟩) (ol L i) (ol L i) else pthT L PB i c := by
  obtain ⟨h1, h2, h3, h4⟩ := oc_facts L i hi
  unfold pthT
  by_cases e : c = oc L i
  · rw [if_pos e, e, h4, if_pos ⟨h2, Nat.lt_succ_self i⟩]
    unfold ol
    exact Eq.refl _
  · rw [if_neg e]
    by_cases hl : 1 ≤ L c
    · have : posT L c ≠ i := by
        intro x
        exact e (posT_inj L c (oc L i) hc hl h1 h2 (by rw [x, h4]))
      by_cases hp : posT L c < i
      · rw [if_pos ⟨hl, by omega⟩, if_pos ⟨hl, hp⟩]
      · rw [if_neg (by omega), if_neg (by omega)]
    · rw [if_neg (fun x => hl x.1), if_neg (fun x => hl x.1)]

theorem row_path {L : Nat → Nat} {wr : World} {N PB i : Nat} {nodes : Value} {cod : Nat → Nat} (hi : i < lonT L 32) (h : wr.rowIs N 65 513 (shF nodes (pthT L PB i) cod)) :
    (wr.setCell ⟨N, 1 + oc L i, none⟩ (.slice (some ⟨PB, offT L i, none⟩) (ol L i) (ol L i))).rowIs N 65 513 (shF nodes (pthT L PB (i + 1)) cod) := by
  have hc := (oc_facts L i hi).1
  refine (h.set (1 + oc L i) _).congr ?_
  intro t ht
  unfold shF
  by_cases h0 : t = 0
  · rw [if_pos h0, if_pos h0, if_neg (by omega)]
  · rw [if_neg h0, if_neg h0]
    by_cases h1 : t < 257
    · rw [if_pos h1, if_pos h1, pthT_step L PB i (t - 1) hi (by omega)]
      by_cases e : t = 1 + oc L i
      · rw [if_pos e, if_pos (by omega)]
      · rw [if_neg e, if_neg (by omega)]
    · rw [if_neg h1, if_neg h1, if_neg (by omega)]

theorem offT_mono (L : Nat → Nat) (i j : Nat) (h : i ≤ j) : offT L i ≤ offT L j := sumF_le _ i j h

theorem Try.info21 : (Try.prog.info? 21).map (fun i => (i.zero, i.size, i.bytes)) = some (some (.int .i32 0), 1, 4) := by kernel_rfl
end Go.Proofs.Qxb6602643a
