/- A pointer to an array of integers, opened. -/
import Derived.Test.Qxb6602643aKit
import Derived.ChangeOld
namespace Go.Proofs.Qxb6602643a
open Go.ChangeShapes Go.WideShapes Go.ChangeAt Go.RowKit

theorem open_ptr_arr {H : Type} {enc : TypeId × Value → H} {P : Program} {w : World} {base : Nat} {sp : Nat → Bool} {held : Bool} {r : Reach} {b0 : Nat} {t e u : TypeId} {n : Nat} {k : IntKind} {v : Value} {d : DataW H} {ps : List MemPlace}
    (ht : P.underlying t = some (.pointer e)) (he : P.underlying e = some (.array n u)) (hu : P.underlying u = some (.int k)) (hcu : P.cellsOf u = 1) (hce : P.cellsOf e = n) (hpos : 0 < n)
    (hval : Value.okWide P w r b0 t v) (hd : DataW.Trod enc P w base sp held t v d ps) :
    v = .pointer none ∨ ∃ (b off : Nat) (Z : Nat → Int), v = .pointer (some ⟨b, off, none⟩) ∧ ∀ i, i < n → w.cell? ⟨b, off + i, none⟩ = some (.int k (Z i)) ∧ (Lit.int k (Z i)).wf = true := by
  rcases ChangeShapes.open_ptr ht (by rw [hce]; exact hpos) hval hd with ⟨rfl, _, _⟩ | ⟨b, off, cs, y, fuel, rfl, _, _, hlen, hcell, hy⟩
  · exact .inl rfl
  · right
    obtain ⟨xs, m, rfl, rfl, hcl, hxl, hx⟩ := DataW.trod_array he hy
    have key : ∀ i, i < n → ∃ z : Int, w.cell? ⟨b, off + i, none⟩ = some (.int k z) ∧ (Lit.int k z).wf = true := by
      intro i hi
      have h1 := hx i hi
      rw [hcu, Nat.mul_one] at h1
      have hlt : i < cs.length := by omega
      have hone : (cs.drop i).take 1 = [cs[i]] := by
        rw [List.drop_eq_getElem_cons hlt]; rfl
      rw [hone, List.getElem?_eq_getElem (by omega)] at h1
      obtain ⟨z, e0, _, wz⟩ := DataW.trod_int hu h1
      refine ⟨z, ?_, wz⟩
      rw [hcell i (by omega), List.getElem?_eq_getElem hlt]
      simp at e0
      rw [e0]
    refine ⟨b, off, fun i => if h : i < n then (key i h).choose else 0, rfl, ?_⟩
    intro i hi
    simp only [hi, dif_pos]
    exact (key i hi).choose_spec

theorem u8_nat {z : Int} (h : (Lit.int .u8 z).wf = true) : ((z.toNat : Nat) : Int) = z ∧ z.toNat ≤ 255 := by
  have := bounds_u8 h
  omega
theorem u64_nat {z : Int} (h : (Lit.int .u64 z).wf = true) : ((z.toNat : Nat) : Int) = z ∧ z.toNat < 18446744073709551616 := by
  have := bounds_u64 h
  omega
end Go.Proofs.Qxb6602643a
