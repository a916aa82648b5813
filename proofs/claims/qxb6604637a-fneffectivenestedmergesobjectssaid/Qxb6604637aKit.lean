/- Small laws on worlds for this seat's walks. -/
import Derived.WalkKit
import Derived.ProofKit
import Derived.OpenShut
import Derived.Below
import Derived.Deep.OwnRows
import Derived.Deep.LoopGhost
import Derived.Deep.QuietTactic
import Derived.BigQuiet
import Derived.Deep.MidRow
import Derived.Deep.Cut
import Derived.Deep.CutRange
namespace Go.Proofs.Qxb6604637a
open Go.RowKit

theorem all_get (l : List Value) (z : Value) (h : ∀ v ∈ l, v = z) : ∀ i, i < l.toArray.size → l.toArray[i]? = some z := by
  intro i hi
  simp only [List.size_toArray] at hi
  simp only [List.getElem?_toArray, List.getElem?_eq_getElem hi, Option.some.injEq]
  exact h _ (List.getElem_mem hi)

theorem rowIs_alloc_at {w : World} {n : Nat} (hn : w.heap.size = n) (c : Array Value) (t : TypeId) (f : Nat → Value) (hc : ∀ i, i < c.size → c[i]? = some (f i)) : (w.alloc (.cells c t)).rowIs n t c.size f := by
  subst hn
  exact World.rowIs_alloc w c t f hc

theorem below_setRow {B : Nat} {a w : World} (h : Below B a w) {g : Nat} (hg : B ≤ g) (cs : Array Value) : Below B a (w.setRow g cs) :=
  h.trans ⟨rfl, rfl, rfl, by simp, fun k hk => setRow_other w g k cs (by omega)⟩

theorem rowIs_setRow_other {w : World} {b : Nat} {t : TypeId} {n : Nat} {f : Nat → Value} (h : w.rowIs b t n f) {g : Nat} (hg : b ≠ g) (cs : Array Value) : (w.setRow g cs).rowIs b t n f :=
  h.of_block (setRow_other w g b cs hg)

theorem rowIs_setRow {w : World} {b : Nat} {t : TypeId} {n : Nat} {f : Nat → Value} (h : w.rowIs b t n f) (cs : Array Value) (hn : cs.size = n) (g : Nat → Value) (hc : ∀ i, i < n → cs[i]? = some (g i)) : (w.setRow b cs).rowIs b t n g := by
  obtain ⟨c, hb, _, _⟩ := h
  exact ⟨cs, setRow_heap w b c cs t _ hb, hn, hc⟩

/-- a list of values by the index -/
def tab (n : Nat) (f : Nat → Value) : List Value := (List.range n).map f
theorem tab_length (n : Nat) (f : Nat → Value) : (tab n f).length = n := by simp [tab]
theorem tab_get {n : Nat} {f : Nat → Value} {j : Nat} (h : j < n) : (tab n f)[j]? = some (f j) := by
  simp [tab, h]
theorem tab_some {n : Nat} {f : Nat → Value} {j : Nat} {v : Value} (h : (tab n f)[j]? = some v) : j < n ∧ v = f j := by
  have hj := (List.getElem?_eq_some_iff.1 h).1
  rw [tab_length] at hj
  rw [tab_get hj] at h
  exact ⟨hj, (Option.some.inj h).symm⟩
theorem tab_mem {n : Nat} {f : Nat → Value} {v : Value} (h : v ∈ tab n f) : ∃ j, j < n ∧ v = f j := by
  obtain ⟨j, hj, e⟩ := List.mem_map.1 h
  exact ⟨j, List.mem_range.1 hj, e.symm⟩
theorem rangeAt_tab {w : World} {b t n : Nat} {f : Nat → Value} (h : w.rowIs b t n f) : w.rangeAt b 0 (tab n f) := by
  intro j v hv
  obtain ⟨h1, rfl⟩ := tab_some hv
  simpa using h.cell h1
theorem tab_one {n : Nat} {f : Nat → Value} (h : ∀ j, j < n → (f j).oneCell' = true) : (tab n f).toArray.all (·.oneCell') = true :=
  all_oneCell_toArray (fun v hv => by obtain ⟨j, hj, rfl⟩ := tab_mem hv; exact h j hj)

theorem rowIs_drewN {w : World} {b : Nat} {t : TypeId} {n : Nat} {f : Nat → Value} (h : w.rowIs b t n f) (k : Nat) : (w.drewN k).rowIs b t n f := h.of_block rfl
theorem below_drewN {B : Nat} {a w : World} (h : Below B a w) (k : Nat) : Below B a (w.drewN k) := ⟨h.os, h.tape, h.output, h.size, h.block⟩

theorem wrap_u64_nat (m : Nat) (h : m < 18446744073709551616) : IntKind.u64.wrap (m : Int) = (m : Int) := by
  rw [IntKind.wrap_u64]; omega
theorem wrap_u64_mod (m : Nat) : IntKind.u64.wrap (m : Int) = ((m % 18446744073709551616 : Nat) : Int) := by
  rw [IntKind.wrap_u64]; omega
theorem two_pow_cast (k : Nat) : (2 : Int) ^ k = ((2 ^ k : Nat) : Int) := by
  rw [Int.natCast_pow]; rfl

/-- two results: a slot, and a whole array in memory -/
theorem results_tmp_cell {P : Program} {fn : Func} {u p : Tmp} {ty : TypeId} (h : fn.results = #[.tmp u, .cell p ty]) (tmps : Array Value) (w : World) (g : Nat) (v : Value)
    (hp : tmps.getD p undef = .pointer (some ⟨g, 0, none⟩)) (hl : (loadVar ty ⟨g, 0, none⟩).run P w = .ok v w) :
    (results fn tmps).run P w = .ok (.tuple #[tmps.getD u undef, v]) w := by
  have hp' : tmps[p]?.getD undef = .pointer (some ⟨g, 0, none⟩) := by simpa using hp
  simp [results, h, hp', asAddr, hl]

/-- a new variable of whatever type: its zero cells -/
theorem wpList_alloc {P : Program} {ops : Array Oper} {rest : List Oper} {o : Oper} {a : Act} {w : World} {Q : Exit → Act → World → Prop} (hg : o.guard = none) (ty : TypeId) (ho : o.op = .alloc ty)
    (cs : Array Value) (hz : (P.info? ty).map (fun i => i.zero.map Value.cells) = some (some cs))
    (h : wpList P ops Q rest (a.put o.dst (.pointer (some ⟨w.heap.size, 0, none⟩))) (w.alloc (.cells cs ty))) : wpList P ops Q (o :: rest) a w := by
  refine wpList_plain hg fun K hK => ?_
  obtain ⟨i, hi, hzz⟩ := Option.map_eq_some_iff.1 hz
  obtain ⟨z, hz1, hz2⟩ := Option.map_eq_some_iff.1 hzz
  unfold Oper.wp execOp
  subst hz2
  simp only [ho, Instr.alloc, zeroValue, typeInfo, newVar]
  simp [hi, hz1, go_sem]
  exact hK _ _ h

/-- BLOCK b BEGINS WITH n CELLS, NONE FROZEN, CELL i HOLDING 'f i' -/
def rowPre (w : World) (b : Nat) (t : TypeId) (n : Nat) (f : Nat → Value) : Prop :=
  ∃ c : Array Value, w.heap[b]? = some (.cells c t (0, 0)) ∧ n ≤ c.size ∧ ∀ i, i < n → c[i]? = some (f i)

namespace rowPre
variable {w : World} {b : Nat} {t : TypeId} {n : Nat} {f g : Nat → Value}
theorem cell (h : rowPre w b t n f) {i : Nat} (hi : i < n) : w.cell? ⟨b, i, none⟩ = some (f i) := by
  obtain ⟨c, hb, _, hc⟩ := h
  simp [World.cell?, hb, hc i hi]
theorem frozen (h : rowPre w b t n f) (i : Nat) : w.frozen? ⟨b, i, none⟩ = false := by
  obtain ⟨c, hb, _, _⟩ := h
  simp [World.frozen?, hb]
theorem lt (h : rowPre w b t n f) : b < w.heap.size := by
  obtain ⟨c, hb, _, _⟩ := h
  exact (Array.getElem?_eq_some_iff.1 hb).1
theorem congr (h : rowPre w b t n f) (e : ∀ i, i < n → f i = g i) : rowPre w b t n g := by
  obtain ⟨c, hb, hn, hc⟩ := h
  exact ⟨c, hb, hn, fun i hi => by rw [hc i hi, e i hi]⟩
theorem of_block {w' : World} (h : rowPre w b t n f) (e : w'.heap[b]? = w.heap[b]?) : rowPre w' b t n f := by
  obtain ⟨c, hb, hn, hc⟩ := h
  exact ⟨c, e.trans hb, hn, hc⟩
theorem set (h : rowPre w b t n f) (i : Nat) (v : Value) : rowPre (w.setCell ⟨b, i, none⟩ v) b t n (fun j => if j = i then v else f j) := by
  obtain ⟨c, hb, hn, hc⟩ := h
  refine ⟨c.setIfInBounds i v, ?_, by simpa using hn, fun j hj => ?_⟩
  · simp [World.setCell, Array.getElem?_modify, hb]
  · rw [Array.getElem?_setIfInBounds]
    by_cases e : j = i
    · subst e
      simp [show j < c.size from by omega]
    · rw [if_neg (fun h => e h.symm)]
      show c[j]? = some (if j = i then v else f j)
      rw [if_neg e]
      exact hc j hj
theorem setOther (h : rowPre w b t n f) {a : Addr} (ha : b ≠ a.block) (v : Value) : rowPre (w.setCell a v) b t n f := h.of_block (Below.heap_setCell _ _ _ _ ha)
theorem alloc (h : rowPre w b t n f) (o : Obj) : rowPre (w.alloc o) b t n f := h.of_block (Below.heap_alloc _ _ _ h.lt)
theorem drew (h : rowPre w b t n f) : rowPre w.drew b t n f := h
theorem drewN (h : rowPre w b t n f) (k : Nat) : rowPre (w.drewN k) b t n f := h.of_block rfl
end rowPre

theorem heap_setCells_other (b : Nat) : ∀ (vs : List Value) (o : Nat) (w : World) (k : Nat), k ≠ b → (w.setCells b o vs).heap[k]? = w.heap[k]?
  | [], _, _, _, _ => rfl
  | v :: r, o, w, k, h => by
    rw [World.setCells, heap_setCells_other b r (o + 1) _ k h]
    exact Below.heap_setCell _ _ _ _ h
theorem size_setCells (b : Nat) : ∀ (vs : List Value) (o : Nat) (w : World), (w.setCells b o vs).heap.size = w.heap.size
  | [], _, _ => rfl
  | v :: r, o, w => by
    rw [World.setCells, size_setCells b r (o + 1) _]
    simp [World.setCell]
theorem below_setCells {B : Nat} {a : World} (b : Nat) (hb : B ≤ b) : ∀ (vs : List Value) (o : Nat) (w : World), Below B a w → Below B a (w.setCells b o vs)
  | [], _, _, h => h
  | v :: r, o, w, h => by
    rw [World.setCells]
    exact below_setCells b hb r (o + 1) _ (h.setCell hb v)
theorem rowPre_setCells (b : Nat) (t : TypeId) (n : Nat) : ∀ (vs : List Value) (o : Nat) (w : World) (f : Nat → Value), rowPre w b t n f →
    rowPre (w.setCells b o vs) b t n (fun i => if o ≤ i ∧ i < o + vs.length then vs.getD (i - o) undef else f i)
  | [], o, w, f, h => h.congr (fun i _ => by rw [if_neg (by simp)])
  | v :: r, o, w, f, h => by
    rw [World.setCells]
    refine (rowPre_setCells b t n r (o + 1) _ _ (h.set o v)).congr ?_
    intro i _
    by_cases h1 : i = o
    · subst h1
      rw [if_neg (by omega), if_pos rfl, if_pos (by simp), Nat.sub_self]
      rfl
    · by_cases h2 : o + 1 ≤ i ∧ i < o + 1 + r.length
      · rw [if_pos h2, if_pos (by simp; omega), show i - o = (i - (o + 1)) + 1 from by omega]
        rfl
      · rw [if_neg h2, if_neg h1, if_neg (by simp; omega)]
theorem there_rowPre {w : World} {b : Nat} {t : TypeId} {n : Nat} {f : Nat → Value} (h : rowPre w b t n f) (o m : Nat) (hm : o + m ≤ n) : w.there b o m := by
  intro j hj
  exact ⟨by rw [h.cell (by omega)]; rfl, h.frozen _⟩
theorem rowPre_own {w : World} {base : Nat} {e : TypeId} {size g n cap : Nat} {xs : List Value} (h : w.ownsRow base e size (.slice (some ⟨g, 0, none⟩) n cap) n xs) : ∃ Z, rowPre w g e (n * size) Z := by
  rcases h.2 with ⟨hv, _⟩ | ⟨g', c', cur, hv, hb, hh, hn, hm, hs, ht⟩
  · simp at hv
  · simp only [Value.slice.injEq, Option.some.injEq, Addr.mk.injEq] at hv
    obtain ⟨⟨rfl, _, _⟩, _, rfl⟩ := hv
    refine ⟨fun x => cur.getD x undef, cur, hh, by rw [hs]; exact Nat.mul_le_mul_right _ hn, ?_⟩
    intro i hi
    have : i < cur.size := by have := Nat.mul_le_mul_right size hn; omega
    simp [this]
theorem rangeAt_rowPre {w : World} {b : Nat} {t : TypeId} {n : Nat} {f : Nat → Value} (h : rowPre w b t n f) (o m : Nat) (hm : o + m ≤ n) (cs : List Value) (hl : cs.length = m) (hc : ∀ j, j < m → cs[j]? = some (f (o + j))) : w.rangeAt b o cs := by
  intro j v hv
  have hj : j < m := by rw [← hl]; exact (List.getElem?_eq_some_iff.1 hv).1
  rw [h.cell (by omega), ← hc j hj, hv]
theorem rangeAt_rowIs {w : World} {b : Nat} {t : TypeId} {n : Nat} {f : Nat → Value} (h : w.rowIs b t n f) (o m : Nat) (hm : o + m ≤ n) (g : Nat → Value) (hc : ∀ j, j < m → f (o + j) = g j) : w.rangeAt b o (tab m g) := by
  intro j v hv
  obtain ⟨h1, rfl⟩ := tab_some hv
  rw [h.cell (by omega), hc j h1]

end Go.Proofs.Qxb6604637a
namespace Go.Proofs.Qxb6604637a
def hdC : Code → Code | .seq a _ => a | c => c
def tlC : Code → Code | .seq _ b => b | c => c
def tailC : Nat → Code → Code
  | 0, c => c
  | n + 1, c => tailC n (tlC c)
end Go.Proofs.Qxb6604637a
