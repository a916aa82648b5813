/- Maps as finite functions: the walk's words for this seat. -/
import Derived.Test.Qxb6604637aRows
import Derived.Test.Qxb6604637aKit
import Derived.Maps.OwnSet
import Derived.Maps.OwnOps
import Derived.Maps.RangeWalk
import Derived.Laws.Externs
import Derived.BigRegion
namespace Go.Proofs.Qxb6604637a
open Go.RowKit Go.Maps Go.MapKept Go.WideMaps Go.ChangeMaps
set_option linter.unusedVariables false

theorem law9 : Keyed Try.prog 9 := string_keyed Try.underlying9

/-- every element reads as itself -/
def Rv (v : Value) : Option (DataW Value × List MemPlace) := some (.held v, [])

/-- a key as the model reads it -/
abbrev sk (s : ByteArray) : Lit := .string s.data.toList
theorem sk_inj {s t : ByteArray} (h : sk s = sk t) : s = t := by
  cases s; cases t
  simp only [sk, Lit.string.injEq] at h
  congr 1
  exact Array.ext' h
theorem hkey {s : ByteArray} (hs : s.size ≤ maxLen) : keyOf Try.prog 9 (.string s) = some (sk s) := keyOf_string_mk Try.underlying9 hs
theorem isKey_sk (s : ByteArray) : WideAt.IsKeyLit (sk s) := trivial

/-- the datum D reads as the finite function f -/
def Vw (D : DataW Value) (f : Lit → Option Value) : Prop := ∀ k, Maps.has D k = (f k).isSome ∧ ∀ v, f k = some v → ∀ z, D.atKey k z = .held v

/-- f with key k set to o -/
def upd (f : Lit → Option Value) (k : Lit) (o : Option Value) : Lit → Option Value := fun x => if x.sameKey k then o else f x
theorem sameKey_iff {a b : Lit} (hb : WideAt.IsKeyLit b) : a.sameKey b = true ↔ a = b := by
  constructor
  · intro h
    apply Classical.byContradiction
    intro hne
    rw [sameKey_ne hne] at h
    cases h
  · rintro rfl
    cases a <;> simp_all [Lit.sameKey, WideAt.IsKeyLit]
theorem upd_same (f : Lit → Option Value) {k : Lit} (hk : WideAt.IsKeyLit k) (o : Option Value) : upd f k o k = o := by simp [upd, (sameKey_iff (a := k) hk).2 rfl]
theorem upd_other (f : Lit → Option Value) {k x : Lit} (o : Option Value) (h : x ≠ k) : upd f k o x = f x := by simp [upd, sameKey_ne h]

theorem Vw.empty : Vw (.map []) (fun _ => none) := fun k => ⟨rfl, fun v h => by cases h⟩
theorem Vw.put {D : DataW Value} {f : Lit → Option Value} (h : Vw D f) (hD : IsMap D) {k : Lit} (hk : WideAt.IsKeyLit k) (v : Value) : Vw (D.put k (.held v)) (upd f k (some v)) := by
  intro x
  rcases Classical.em (x = k) with e | e
  · subst e
    refine ⟨by rw [upd_same _ hk, has_put_same hD hk]; rfl, fun u hu z => ?_⟩
    rw [upd_same _ hk] at hu
    cases hu
    exact atKey_put_same hD hk _ _
  · refine ⟨by rw [upd_other _ _ e, has_put_other e]; exact (h x).1, fun u hu z => ?_⟩
    rw [upd_other _ _ e] at hu
    rw [atKey_put_other e]
    exact (h x).2 u hu z
theorem Vw.del {D : DataW Value} {f : Lit → Option Value} (h : Vw D f) {k : Lit} (hk : WideAt.IsKeyLit k) : Vw (D.del k) (upd f k none) := by
  intro x
  rcases Classical.em (x = k) with e | e
  · subst e
    exact ⟨by rw [upd_same _ hk, has_del_same]; rfl, fun u hu => by rw [upd_same _ hk] at hu; cases hu⟩
  · refine ⟨by rw [upd_other _ _ e, has_del_other e]; exact (h x).1, fun u hu z => ?_⟩
    rw [upd_other _ _ e] at hu
    rw [atKey_del_other e]
    exact (h x).2 u hu z
theorem Vw.at {D : DataW Value} {f : Lit → Option Value} (h : Vw D f) (k : Lit) (z : Value) : D.atKey k (.held z) = .held ((f k).getD z) := by
  cases e : f k with
  | none =>
    rw [atKey_of_not_has (by rw [(h k).1, e]; rfl)]
    rfl
  | some v => exact (h k).2 v e _

/-- f has m keys -/
def Card (f : Lit → Option Value) (m : Nat) : Prop := ∃ L : List Lit, L.Nodup ∧ L.length = m ∧ ∀ k, k ∈ L ↔ (f k).isSome = true
theorem nodup_perm {α : Type} {L M : List α} (hL : L.Nodup) (hM : M.Nodup) (h : ∀ k, k ∈ L ↔ k ∈ M) : L.length = M.length := by
  classical exact ((List.perm_ext_iff_of_nodup hL hM).2 h).length_eq

/-- block b is a map of at most n entries, with f for its content -/
def MapIs (w : World) (b n : Nat) (f : Lit → Option Value) : Prop := ∃ D, w.ownsMap Try.prog 9 Rv b n D ∧ Vw D f

namespace MapIs
variable {w w' : World} {b n : Nat} {f g : Lit → Option Value}
theorem lt (h : MapIs w b n f) : b < w.heap.size := by obtain ⟨D, h1, _⟩ := h; exact h1.lt
theorem of_block (h : MapIs w b n f) (e : w'.heap[b]? = w.heap[b]?) : MapIs w' b n f := by
  obtain ⟨D, ⟨es, clock, hb, r⟩, v⟩ := h
  exact ⟨D, ⟨es, clock, e.trans hb, r⟩, v⟩
theorem mono (h : MapIs w b n f) {m : Nat} (hm : n ≤ m) : MapIs w b m f := by obtain ⟨D, h1, h2⟩ := h; exact ⟨D, h1.mono hm, h2⟩
theorem congr (h : MapIs w b n f) (e : ∀ k, f k = g k) : MapIs w b n g := by rwa [show g = f from funext fun k => (e k).symm]
theorem kept {row : Option Nat} (h : MapIs w b n f) (hg : w.grownBy w' row) (hne : some b ≠ row) : MapIs w' b n f := h.of_block (hg.block b h.lt hne)
theorem below {B : Nat} (h : MapIs w b n f) (hB : Below B w w') (hb : b < B) : MapIs w' b n f := h.of_block (hB.block b hb)
theorem drewN (h : MapIs w b n f) (k : Nat) : MapIs (w.drewN k) b n f := h.of_block rfl
theorem alloc (h : MapIs w b n f) (o : Obj) : MapIs (w.alloc o) b n f := by obtain ⟨D, h1, h2⟩ := h; exact ⟨D, h1.alloc o, h2⟩
theorem made (w : World) : MapIs (w.alloc (.map #[] 0)) w.heap.size 0 (fun _ => none) := ⟨_, World.ownsMap_made _ _ _ _, Vw.empty⟩
theorem card (h : MapIs w b n f) : ∃ m, m ≤ n ∧ Card f m := by
  obtain ⟨D, h1, h2⟩ := h
  obtain ⟨es, rfl, hp, hk⟩ := h1.entries law9
  refine ⟨es.length, h1.size_le, es.map Prod.fst, ?_, by simp, fun k => ?_⟩
  · exact List.pairwise_map.2 hp
  · rw [← (h2 k).1, has_eq, List.any_eq_true, List.mem_map]
    constructor
    · rintro ⟨p, hp, rfl⟩
      exact ⟨p, hp, (sameKey_iff (hk p hp)).2 rfl⟩
    · rintro ⟨p, hp, hs⟩
      refine ⟨p, hp, ?_⟩
      apply Classical.byContradiction
      intro hne
      rw [sameKey_ne hne] at hs
      cases hs
end MapIs

theorem Card.unique {f : Lit → Option Value} {m m' : Nat} (h : Card f m) (h' : Card f m') : m = m' := by
  obtain ⟨L, h1, rfl, h2⟩ := h
  obtain ⟨M, g1, rfl, g2⟩ := h'
  exact nodup_perm h1 g1 (fun k => (h2 k).trans (g2 k).symm)
theorem Card.zero {f : Lit → Option Value} (h : Card f 0) (k : Lit) : f k = none := by
  obtain ⟨L, _, h1, h2⟩ := h
  obtain rfl := List.length_eq_zero_iff.1 h1
  cases e : f k with
  | none => rfl
  | some v => exact absurd ((h2 k).2 (by rw [e]; rfl)) (by simp)
theorem Card.pos {f : Lit → Option Value} {m : Nat} (h : Card f m) (hm : m ≠ 0) : ∃ k v, f k = some v := by
  obtain ⟨L, _, rfl, h2⟩ := h
  cases L with
  | nil => exact absurd rfl hm
  | cons k r =>
    have := (h2 k).1 (by simp)
    obtain ⟨v, hv⟩ := Option.isSome_iff_exists.1 this
    exact ⟨k, v, hv⟩

/-! ### at the operations -/
section
variable (w : World) {ops : Array Oper} {rest : List Oper} {o : Oper} {a : Act} {Q : Exit → Act → World → Prop}

theorem wpList_look (hg : o.guard = none) (m x : Operand) (t e : TypeId) (hop : o.op = Op.lookup t m x false) (ht : Try.prog.underlying t = some (.map 9 e)) (z : Value) (hz : (zeroValue e).run Try.prog w = .ok z w) (b n : Nat) (f : Lit → Option Value)
    (hm : a.eval m = .map (some b)) (h : MapIs w b n f) (s : ByteArray) (hs : s.size ≤ maxLen) (hx : a.eval x = .string s)
    (hK : wpList Try.prog ops Q rest (a.put o.dst ((f (sk s)).getD z)) w) : wpList Try.prog ops Q (o :: rest) a w := by
  refine wpList_plain hg fun K' hK' => ?_
  obtain ⟨D, h1, h2⟩ := h
  obtain ⟨v, ps, hrun, hv⟩ := h1.lookup law9 ht hz (zd := .held z) (zp := []) rfl (hkey hs)
  rw [h2.at] at hv
  simp only [Rv, Option.some.injEq, Prod.mk.injEq, DataW.held.injEq] at hv
  unfold Oper.wp
  simp [execOp, hop, hm, hx, hrun, Result.andThen]
  rw [hv.1]
  exact hK' _ _ hK

theorem wpList_lookOk (hg : o.guard = none) (m x : Operand) (t e : TypeId) (hop : o.op = Op.lookup t m x true) (ht : Try.prog.underlying t = some (.map 9 e)) (z : Value) (hz : (zeroValue e).run Try.prog w = .ok z w) (b n : Nat) (f : Lit → Option Value)
    (hm : a.eval m = .map (some b)) (h : MapIs w b n f) (s : ByteArray) (hs : s.size ≤ maxLen) (hx : a.eval x = .string s)
    (hK : wpList Try.prog ops Q rest (a.put o.dst (.tuple #[(f (sk s)).getD z, .bool (f (sk s)).isSome])) w) : wpList Try.prog ops Q (o :: rest) a w := by
  refine wpList_plain hg fun K' hK' => ?_
  obtain ⟨D, h1, h2⟩ := h
  obtain ⟨v, ps, hrun, hv⟩ := h1.look_ok law9 ht hz (zd := .held z) (zp := []) rfl (hkey hs)
  rw [h2.at] at hv
  simp only [Rv, Option.some.injEq, Prod.mk.injEq, DataW.held.injEq] at hv
  unfold Oper.wp
  simp [execOp, hop, hm, hx, hrun, Result.andThen]
  rw [hv.1, (h2 _).1]
  exact hK' _ _ hK

theorem wpList_store (hg : o.guard = none) (m x v : Operand) (t e : TypeId) (hop : o.op = Op.mapUpdate t m x v) (ht : Try.prog.underlying t = some (.map 9 e)) (b n : Nat) (f : Lit → Option Value)
    (hm : a.eval m = .map (some b)) (h : MapIs w b n f) (hn : n < maxLen) (s : ByteArray) (hs : s.size ≤ maxLen) (val : Value) (hx : a.eval x = .string s) (hv : a.eval v = val)
    (hK : ∀ w', MapIs w' b (n + 1) (upd f (sk s) (some val)) → w.grownBy w' (some b) → w'.heap.size = w.heap.size → wpList Try.prog ops Q rest (a.put o.dst undef) w') : wpList Try.prog ops Q (o :: rest) a w := by
  refine wpList_plain hg fun K' hK' => ?_
  obtain ⟨D, h1, h2⟩ := h
  obtain ⟨w', hrun, r1, r2⟩ := h1.store law9 ht hn (hkey hs) (d := .held val) (ps := []) (val := val) rfl
  unfold Oper.wp
  simp [execOp, hop, hm, hx, hv, hrun, Result.andThen]
  refine hK' _ _ (hK w' ⟨_, r1, h2.put h1.isMap (isKey_sk s) val⟩ r2.grown ?_)
  obtain ⟨es, clock, es', clock', _, rfl⟩ := r2
  simp [setBlock]

theorem wpList_drop (hg : o.guard = none) (m x : Operand) (t e : TypeId) (hop : o.op = Op.call { callee := Callee.builtin Builtin.delete, args := #[m, x], argTypes := #[t, 9] }) (ht : Try.prog.underlying t = some (.map 9 e)) (b n : Nat) (f : Lit → Option Value)
    (hm : a.eval m = .map (some b)) (h : MapIs w b n f) (s : ByteArray) (hs : s.size ≤ maxLen) (hx : a.eval x = .string s)
    (hK : ∀ w', MapIs w' b n (upd f (sk s) none) → w.grownBy w' (some b) → w'.heap.size = w.heap.size → wpList Try.prog ops Q rest (a.put o.dst (.tuple #[])) w') : wpList Try.prog ops Q (o :: rest) a w := by
  refine wpList_plain hg fun K' hK' => ?_
  obtain ⟨D, h1, h2⟩ := h
  obtain ⟨w', hrun, r1, r2⟩ := h1.drop law9 ht (hkey hs) o.type
  unfold Oper.wp
  simp [execOp, hop, resolve, invoke, builtin, hm, hx, hrun, Result.andThen]
  refine hK' _ _ (hK w' ⟨_, r1, h2.del (isKey_sk s)⟩ r2.grown ?_)
  obtain ⟨es, clock, es', clock', _, rfl⟩ := r2
  simp [setBlock]

theorem wpList_mlen (hg : o.guard = none) (m : Operand) (t e : TypeId) (hop : o.op = Op.call { callee := Callee.builtin Builtin.len, args := #[m], argTypes := #[t] }) (ht : Try.prog.underlying t = some (.map 9 e)) (b n : Nat) (f : Lit → Option Value)
    (hm : a.eval m = .map (some b)) (h : MapIs w b n f)
    (c : Nat) (hc : Card f c) (hK : wpList Try.prog ops Q rest (a.put o.dst (.int .i64 (c : Nat))) w) : wpList Try.prog ops Q (o :: rest) a w := by
  refine wpList_plain hg fun K' hK' => ?_
  obtain ⟨D, h1, h2⟩ := h
  have hcd : Maps.size D = c := by
    obtain ⟨es, rfl, hp, hk⟩ := h1.entries law9
    refine Card.unique (f := f) ⟨es.map Prod.fst, List.pairwise_map.2 hp, by simp [size_eq], fun k => ?_⟩ hc
    rw [← (h2 k).1, has_eq, List.any_eq_true, List.mem_map]
    constructor
    · rintro ⟨p, hp, rfl⟩
      exact ⟨p, hp, (sameKey_iff (hk p hp)).2 rfl⟩
    · rintro ⟨p, hp, hs⟩
      refine ⟨p, hp, ?_⟩
      apply Classical.byContradiction
      intro hne
      rw [sameKey_ne hne] at hs
      cases hs
  unfold Oper.wp
  simp [execOp, hop, resolve, invoke, builtin, hm, h1.len ht o.type, Result.andThen]
  rw [hcd]
  exact hK' _ _ hK

/-- an iterator r is under way over map b -/
def Ranges (w : World) (b r n : Nat) (f : Lit → Option Value) (left : Lit → Bool) (cnt : Nat) : Prop := ∃ D, w.ranges Try.prog 9 Rv b r n D left cnt ∧ Vw D f

theorem wpList_rangeM (hg : o.guard = none) (m : Operand) (t e : TypeId) (hop : o.op = Op.range t m) (ht : Try.prog.underlying t = some (.map 9 e)) (b n : Nat) (f : Lit → Option Value)
    (hm : a.eval m = .map (some b)) (h : MapIs w b n f)
    (hK : ∀ w' cnt, cnt ≤ n → Ranges w' b w.heap.size n f (fun k => (f k).isSome) cnt → w.grownBy w' none → w'.heap.size = w.heap.size + 1 → wpList Try.prog ops Q rest (a.put o.dst (.pointer (some ⟨w.heap.size, 0, none⟩))) w') : wpList Try.prog ops Q (o :: rest) a w := by
  obtain ⟨D, h1, h2⟩ := h
  refine wpList_range_own w hg m t hop 9 e law9 ht Rv b n D hm h1 fun w' r1 r2 r3 => hK w' (Maps.size D) h1.size_le ⟨D, ?_, h2⟩ r2 r3
  have hl : Maps.has D = fun k => (f k).isSome := funext fun k => (h2 k).1
  rwa [hl] at r1

theorem keyOf_string_inv {key : Value} {kl : Lit} (h : keyOf Try.prog 9 key = some kl) : ∃ s : ByteArray, key = .string s ∧ kl = sk s ∧ s.size ≤ maxLen := by
  have hk := Try.underlying9
  rw [keyOf_string hk] at h
  cases key <;> simp [mapKey, hk] at h
  obtain ⟨hs, rfl⟩ := h
  exact ⟨_, rfl, rfl, hs⟩

theorem wpList_nextM (hg : o.guard = none) (it : Operand) (hop : o.op = Op.next it false) (b r n : Nat) (f : Lit → Option Value) (left : Lit → Bool) (cnt : Nat)
    (hit : a.eval it = .pointer (some ⟨r, 0, none⟩)) (h : Ranges w b r n f left cnt)
    (hDone : cnt = 0 → (∀ kl, left kl = false) → wpList Try.prog ops Q rest (a.put o.dst (.tuple #[.bool false])) w)
    (hMore : ∀ (s : ByteArray) (v : Value) (w' : World) (cnt' : Nat), s.size ≤ maxLen → left (sk s) = true → f (sk s) = some v → Ranges w' b r n f (fun z => left z && !z.sameKey (sk s)) cnt' → cnt' < cnt →
      w.grownBy w' (some r) → w'.heap.size = w.heap.size → (Instr.entry (.pointer (some ⟨r, 0, none⟩))).run Try.prog w' = .ok (.tuple #[.string s, v]) w' → wpList Try.prog ops Q rest (a.put o.dst (.tuple #[.bool true, .string s, v])) w') :
    wpList Try.prog ops Q (o :: rest) a w := by
  obtain ⟨D, h1, h2⟩ := h
  refine wpList_next_ranges w hg it hop 9 law9 Rv Value.string id (fun key kl hk => by obtain ⟨s, rfl, _⟩ := keyOf_string_inv hk; exact ⟨s, rfl⟩) (fun v y _ => ⟨v, rfl⟩) b r n D left cnt hit h1 hDone ?_
  intro s v kl y w' cnt' hk hlk hv hat hrg hlt hgr hsz hen
  obtain ⟨s', es, rfl, hss⟩ := keyOf_string_inv hk
  cases es
  refine hMore s v w' cnt' hss hlk ?_ ⟨D, hrg, h2⟩ hlt hgr hsz hen
  simp only [Rv, Option.some.injEq, id] at hv
  subst hv
  have hh : Maps.has D (sk s) = true := has_true_of_atKey hat
  rw [(h2 _).1] at hh
  obtain ⟨u, hu⟩ := Option.isSome_iff_exists.1 hh
  have := (h2 _).2 u hu (.held undef)
  rw [hat] at this
  cases this
  exact hu

end
theorem Ranges.kept {w w' : World} {b r n cnt : Nat} {f : Lit → Option Value} {left : Lit → Bool} {row : Option Nat} (h : Ranges w b r n f left cnt) (hg : w.grownBy w' row) (hb' : some b ≠ row) (hr' : some r ≠ row) : Ranges w' b r n f left cnt := by
  obtain ⟨D, h1, h2⟩ := h
  exact ⟨D, h1.kept hg hb' hr', h2⟩
theorem Ranges.lt {w : World} {b r n cnt : Nat} {f : Lit → Option Value} {left : Lit → Bool} (h : Ranges w b r n f left cnt) : r < w.heap.size := by obtain ⟨D, h1, _⟩ := h; exact h1.lt
theorem Ranges.isMap {w : World} {b r n cnt : Nat} {f : Lit → Option Value} {left : Lit → Bool} (h : Ranges w b r n f left cnt) : MapIs w b n f := by obtain ⟨D, h1, h2⟩ := h; exact ⟨D, h1.owns, h2⟩
theorem Ranges.below {w w' : World} {B b r n cnt : Nat} {f : Lit → Option Value} {left : Lit → Bool} (h : Ranges w b r n f left cnt) (hB : Below B w w') (hb : b < B) (hr : r < B) (hs : B ≤ w.heap.size) : Ranges w' b r n f left cnt := by
  obtain ⟨D, ⟨es, clock, since, seen, c0, e1, F, h3, h4, e2, q⟩, h2⟩ := h
  exact ⟨D, ⟨es, clock, since, seen, c0, (hB.block b hb).trans e1, F, h3, h4, (hB.block r hr).trans e2, q⟩, h2⟩
end Go.Proofs.Qxb6604637a
