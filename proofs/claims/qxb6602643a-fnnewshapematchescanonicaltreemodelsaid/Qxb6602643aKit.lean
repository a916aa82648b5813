/- Small laws on worlds for this seat's walks. -/
import Derived.WalkKit
import Derived.ProofKit
import Derived.OpenShut
import Derived.Below
import Derived.Deep.OwnRows
import Derived.Deep.LoopGhost
import Derived.Deep.QuietTactic
import Derived.BigQuiet
import Derived.Deep.MidRow
import Derived.Deep.Cut
import Derived.Deep.CutRange
namespace Go.Proofs.Qxb6602643a
open Go.RowKit

theorem all_get (l : List Value) (z : Value) (h : ∀ v ∈ l, v = z) : ∀ i, i < l.toArray.size → l.toArray[i]? = some z := by
  intro i hi
  simp only [List.size_toArray] at hi
  simp only [List.getElem?_toArray, List.getElem?_eq_getElem hi, Option.some.injEq]
  exact h _ (List.getElem_mem hi)

theorem rowIs_alloc_at {w : World} {n : Nat} (hn : w.heap.size = n) (c : Array Value) (t : TypeId) (f : Nat → Value) (hc : ∀ i, i < c.size → c[i]? = some (f i)) : (w.alloc (.cells c t)).rowIs n t c.size f := by
  subst hn
  exact World.rowIs_alloc w c t f hc

theorem below_setRow {B : Nat} {a w : World} (h : Below B a w) {g : Nat} (hg : B ≤ g) (cs : Array Value) : Below B a (w.setRow g cs) :=
  h.trans ⟨rfl, rfl, rfl, by simp, fun k hk => setRow_other w g k cs (by omega)⟩

theorem rowIs_setRow_other {w : World} {b : Nat} {t : TypeId} {n : Nat} {f : Nat → Value} (h : w.rowIs b t n f) {g : Nat} (hg : b ≠ g) (cs : Array Value) : (w.setRow g cs).rowIs b t n f :=
  h.of_block (setRow_other w g b cs hg)

theorem rowIs_setRow {w : World} {b : Nat} {t : TypeId} {n : Nat} {f : Nat → Value} (h : w.rowIs b t n f) (cs : Array Value) (hn : cs.size = n) (g : Nat → Value) (hc : ∀ i, i < n → cs[i]? = some (g i)) : (w.setRow b cs).rowIs b t n g := by
  obtain ⟨c, hb, _, _⟩ := h
  exact ⟨cs, setRow_heap w b c cs t _ hb, hn, hc⟩

/-- a list of values by the index -/
def tab (n : Nat) (f : Nat → Value) : List Value := (List.range n).map f
theorem tab_length (n : Nat) (f : Nat → Value) : (tab n f).length = n := by simp [tab]
theorem tab_get {n : Nat} {f : Nat → Value} {j : Nat} (h : j < n) : (tab n f)[j]? = some (f j) := by
  simp [tab, h]
theorem tab_some {n : Nat} {f : Nat → Value} {j : Nat} {v : Value} (h : (tab n f)[j]? = some v) : j < n ∧ v = f j := by
  have hj := (List.getElem?_eq_some_iff.1 h).1
  rw [tab_length] at hj
  rw [tab_get hj] at h
  exact ⟨hj, (Option.some.inj h).symm⟩
theorem tab_mem {n : Nat} {f : Nat → Value} {v : Value} (h : v ∈ tab n f) : ∃ j, j < n ∧ v = f j := by
  obtain ⟨j, hj, e⟩ := List.mem_map.1 h
  exact ⟨j, List.mem_range.1 hj, e.symm⟩
theorem rangeAt_tab {w : World} {b t n : Nat} {f : Nat → Value} (h : w.rowIs b t n f) : w.rangeAt b 0 (tab n f) := by
  intro j v hv
  obtain ⟨h1, rfl⟩ := tab_some hv
  simpa using h.cell h1
theorem tab_one {n : Nat} {f : Nat → Value} (h : ∀ j, j < n → (f j).oneCell' = true) : (tab n f).toArray.all (·.oneCell') = true :=
  all_oneCell_toArray (fun v hv => by obtain ⟨j, hj, rfl⟩ := tab_mem hv; exact h j hj)

theorem rowIs_drewN {w : World} {b : Nat} {t : TypeId} {n : Nat} {f : Nat → Value} (h : w.rowIs b t n f) (k : Nat) : (w.drewN k).rowIs b t n f := h.of_block rfl
theorem below_drewN {B : Nat} {a w : World} (h : Below B a w) (k : Nat) : Below B a (w.drewN k) := ⟨h.os, h.tape, h.output, h.size, h.block⟩

theorem wrap_u64_nat (m : Nat) (h : m < 18446744073709551616) : IntKind.u64.wrap (m : Int) = (m : Int) := by
  rw [IntKind.wrap_u64]; omega
theorem wrap_u64_mod (m : Nat) : IntKind.u64.wrap (m : Int) = ((m % 18446744073709551616 : Nat) : Int) := by
  rw [IntKind.wrap_u64]; omega
theorem two_pow_cast (k : Nat) : (2 : Int) ^ k = ((2 ^ k : Nat) : Int) := by
  rw [Int.natCast_pow]; rfl

/-- two results: a slot, and a whole array in memory -/
theorem results_tmp_cell {P : Program} {fn : Func} {u p : Tmp} {ty : TypeId} (h : fn.results = #[.tmp u, .cell p ty]) (tmps : Array Value) (w : World) (g : Nat) (v : Value)
    (hp : tmps.getD p undef = .pointer (some ⟨g, 0, none⟩)) (hl : (loadVar ty ⟨g, 0, none⟩).run P w = .ok v w) :
    (results fn tmps).run P w = .ok (.tuple #[tmps.getD u undef, v]) w := by
  have hp' : tmps[p]?.getD undef = .pointer (some ⟨g, 0, none⟩) := by simpa using hp
  simp [results, h, hp', asAddr, hl]

/-- a new variable of whatever type: its zero cells -/
theorem wpList_alloc {P : Program} {ops : Array Oper} {rest : List Oper} {o : Oper} {a : Act} {w : World} {Q : Exit → Act → World → Prop} (hg : o.guard = none) (ty : TypeId) (ho : o.op = .alloc ty)
    (cs : Array Value) (hz : (P.info? ty).map (fun i => i.zero.map Value.cells) = some (some cs))
    (h : wpList P ops Q rest (a.put o.dst (.pointer (some ⟨w.heap.size, 0, none⟩))) (w.alloc (.cells cs ty))) : wpList P ops Q (o :: rest) a w := by
  refine wpList_plain hg fun K hK => ?_
  obtain ⟨i, hi, hzz⟩ := Option.map_eq_some_iff.1 hz
  obtain ⟨z, hz1, hz2⟩ := Option.map_eq_some_iff.1 hzz
  unfold Oper.wp execOp
  subst hz2
  simp only [ho, Instr.alloc, zeroValue, typeInfo, newVar]
  simp [hi, hz1, go_sem]
  exact hK _ _ h

end Go.Proofs.Qxb6602643a
