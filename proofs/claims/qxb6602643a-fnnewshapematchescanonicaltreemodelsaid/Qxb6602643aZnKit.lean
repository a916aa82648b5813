/- Laws on worlds for ZZNewShape's walk. -/
import Derived.Test.Qxb6602643aNs
namespace Go.Proofs.Qxb6602643a
open Go.RowKit

theorem heap_setCells_other (b : Nat) : ∀ (vs : List Value) (o : Nat) (w : World) (k : Nat), k ≠ b → (w.setCells b o vs).heap[k]? = w.heap[k]?
  | [], _, _, _, _ => rfl
  | v :: r, o, w, k, h => by
    rw [World.setCells, heap_setCells_other b r (o + 1) _ k h]
    exact Below.heap_setCell _ _ _ _ h
theorem size_setCells (b : Nat) : ∀ (vs : List Value) (o : Nat) (w : World), (w.setCells b o vs).heap.size = w.heap.size
  | [], _, _ => rfl
  | v :: r, o, w => by
    rw [World.setCells, size_setCells b r (o + 1) _]
    simp [World.setCell]
theorem below_setCells {B : Nat} {a : World} (b : Nat) (hb : B ≤ b) : ∀ (vs : List Value) (o : Nat) (w : World), Below B a w → Below B a (w.setCells b o vs)
  | [], _, _, h => h
  | v :: r, o, w, h => by
    rw [World.setCells]
    exact below_setCells b hb r (o + 1) _ (h.setCell hb v)
theorem rowPre_setCells (b : Nat) (t : TypeId) (n : Nat) : ∀ (vs : List Value) (o : Nat) (w : World) (f : Nat → Value), rowPre w b t n f →
    rowPre (w.setCells b o vs) b t n (fun i => if o ≤ i ∧ i < o + vs.length then vs.getD (i - o) undef else f i)
  | [], o, w, f, h => h.congr (fun i _ => by rw [if_neg (by simp)])
  | v :: r, o, w, f, h => by
    rw [World.setCells]
    refine (rowPre_setCells b t n r (o + 1) _ _ (h.set o v)).congr ?_
    intro i _
    by_cases h1 : i = o
    · subst h1
      rw [if_neg (by omega), if_pos rfl, if_pos (by simp), Nat.sub_self]
      rfl
    · by_cases h2 : o + 1 ≤ i ∧ i < o + 1 + r.length
      · rw [if_pos h2, if_pos (by simp; omega), show i - o = (i - (o + 1)) + 1 from by omega]
        rfl
      · rw [if_neg h2, if_neg h1, if_neg (by simp; omega)]
theorem there_rowPre {w : World} {b : Nat} {t : TypeId} {n : Nat} {f : Nat → Value} (h : rowPre w b t n f) (o m : Nat) (hm : o + m ≤ n) : w.there b o m := by
  intro j hj
  exact ⟨by rw [h.cell (by omega)]; rfl, h.frozen _⟩
theorem rowPre_own {w : World} {base : Nat} {e : TypeId} {size g n cap : Nat} {xs : List Value} (h : w.ownsRow base e size (.slice (some ⟨g, 0, none⟩) n cap) n xs) : ∃ Z, rowPre w g e (n * size) Z := by
  rcases h.2 with ⟨hv, _⟩ | ⟨g', c', cur, hv, hb, hh, hn, hm, hs, ht⟩
  · simp at hv
  · simp only [Value.slice.injEq, Option.some.injEq, Addr.mk.injEq] at hv
    obtain ⟨⟨rfl, _, _⟩, _, rfl⟩ := hv
    refine ⟨fun x => cur.getD x undef, cur, hh, by rw [hs]; exact Nat.mul_le_mul_right _ hn, ?_⟩
    intro i hi
    have : i < cur.size := by have := Nat.mul_le_mul_right size hn; omega
    simp [this]
theorem rangeAt_rowPre {w : World} {b : Nat} {t : TypeId} {n : Nat} {f : Nat → Value} (h : rowPre w b t n f) (o m : Nat) (hm : o + m ≤ n) (cs : List Value) (hl : cs.length = m) (hc : ∀ j, j < m → cs[j]? = some (f (o + j))) : w.rangeAt b o cs := by
  intro j v hv
  have hj : j < m := by rw [← hl]; exact (List.getElem?_eq_some_iff.1 hv).1
  rw [h.cell (by omega), ← hc j hj, hv]
theorem rangeAt_rowIs {w : World} {b : Nat} {t : TypeId} {n : Nat} {f : Nat → Value} (h : w.rowIs b t n f) (o m : Nat) (hm : o + m ≤ n) (g : Nat → Value) (hc : ∀ j, j < m → f (o + j) = g j) : w.rangeAt b o (tab m g) := by
  intro j v hv
  obtain ⟨h1, rfl⟩ := tab_some hv
  rw [h.cell (by omega), hc j h1]

/-- nine cells of a node -/
def ndL (st ln on dep : Nat) (c0 c1 : Int) : List Value := [.int .u64 (st : Nat), .int .u64 (ln : Nat), .int .u64 (on : Nat), .int .u64 0, .int .i64 (dep : Nat), .int .i32 c0, .int .i32 c1, .int .u32 0, .int .u32 0]
theorem ndL_get (st ln on dep : Nat) (c0 c1 : Int) (j : Nat) (hj : j < 9) : (ndL st ln on dep c0 c1)[j]? = some (ndC st ln on dep c0 c1 j) := by
  match j, hj with
  | 0, _ | 1, _ | 2, _ | 3, _ | 4, _ | 5, _ | 6, _ | 7, _ | 8, _ => rfl
theorem ndL_one (st ln on dep : Nat) (c0 c1 : Int) : ∀ v ∈ ndL st ln on dep c0 c1, v.oneCell' = true := by
  intro u hu
  simp only [ndL, List.mem_cons, List.not_mem_nil, or_false] at hu
  rcases hu with rfl | rfl | rfl | rfl | rfl | rfl | rfl | rfl | rfl <;> rfl

theorem Try.size67 : (Try.prog.info? 67).map (·.size) = some 9 := by kernel_rfl
theorem Try.size53 : (Try.prog.info? 53).map (·.size) = some 9 := by kernel_rfl
theorem Try.size41 : (Try.prog.info? 41).map (·.size) = some 256 := by kernel_rfl
theorem Try.size38 : (Try.prog.info? 38).map (·.size) = some 256 := by kernel_rfl
theorem Try.zero41 : (Try.prog.info? 41).map (fun i => i.zero.map Value.cells) = some (some (Array.replicate 256 (.slice none 0 0))) := by kernel_rfl
theorem Try.zero38 : (Try.prog.info? 38).map (fun i => i.zero.map Value.cells) = some (some (Array.replicate 256 (.int .u64 0))) := by kernel_rfl
theorem Try.zero67 : (Try.prog.info? 67).map (fun i => i.zero.map Value.cells) = some (some (nodeA 0)) := by kernel_rfl
theorem Try.info53 : (Try.prog.info? 53).map (fun i => (i.zero, i.size, i.bytes)) = some (some (.agg #[.int .u64 0, .int .u64 0, .int .u64 0, .int .u64 0, .int .i64 0, .int .i32 0, .int .i32 0, .int .u32 0, .int .u32 0]), 9, 56) := by kernel_rfl
theorem run_b53 (v0 v1 v2 v3 v4 v5 v6 v7 v8 : Int) (w : World) : (Instr.build 53 #[(0, .int .u64 v0), (1, .int .u64 v1), (2, .int .u64 v2), (3, .int .u64 v3), (4, .int .i64 v4), (5, .agg #[.int .i32 v5, .int .i32 v6]), (6, .int .u32 v7), (7, .int .u32 v8)]).run Try.prog w = .ok (.agg #[.int .u64 v0, .int .u64 v1, .int .u64 v2, .int .u64 v3, .int .i64 v4, .int .i32 v5, .int .i32 v6, .int .u32 v7, .int .u32 v8]) w := by kernel_rfl
end Go.Proofs.Qxb6602643a
