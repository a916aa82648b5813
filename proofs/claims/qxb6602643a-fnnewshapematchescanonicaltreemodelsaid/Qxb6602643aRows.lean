/-
  No cell of these rows narrows 'for every input' (looked for: loops, veiled, ifaces, maps, wideKeys, modest, calm, conditions, laid).
  DERIVED. THE GIVEN ROWS OF THIS SEAT. 5 by the template 'for every input the law returns true; each argument reads behind the call as it read before'; 0 by the template 'total and deterministic' (their statements: Qxb6602643aTotals.lean).
  GIVEN WITH THE SEED: the statements are not yours to turn. If you find one false, say at which input.
  Laid BY PROGRAM, IN A SANDBOX (cutbox-rows.mjs): the forced cells as the released guide's own fill.sh prints them over the translation ae3163d36ca38a3f… (all of the seat's roots in one cut). By AI agents, Wed Nov 11 2026. No macro, syntax, notation, axiom, sorry.
-/
import Derived.Test.Qxb6602643aChecked
import GoSem.Claim
import GoSem.ClaimJoined
import GoSem.ClaimMapViews
import Derived.JoinedTies
import Derived.KernelRfl
namespace Go.Proofs.Qxb6602643a
/- THE CELL 'sum', in the pinned program and in every row, IS THE sha256 OF THE DUMP (.gsa) THAT Qxb6602643aProg.lean LOADS. Nothing in Lean hashes anything: it is a label: what it is worth is what the hold of that sum in a sandbox is worth. -/
noncomputable def Try.pinned : Pinned := { name := "qxb6602643a", sum := "ae3163d36ca38a3fa329a0e0c99591d7a6232ceb84cbe7974d9436f31ec28432", checked := Try.checked }
namespace Rows
def none {H : Type} : Left H := { results := [], args := [] }

/-- 'zzlaws_internal_succinct_b1.FnCodeOrderIsCanonicalOrder': WHATEVER THE INPUT: true; the input reads as it did. -/
def fnCodeOrderIsCanonicalOrderSpec : ChangeSpec := { name := "fnCodeOrderIsCanonicalOrder", fn := fun _ => fun
  | [d] => { results := [.lit (.bool true)], args := [d] }
  | _ => none }
def fnCodeOrderIsCanonicalOrderRow : OpenClaim := { program := "qxb6602643a", sum := "ae3163d36ca38a3fa329a0e0c99591d7a6232ceb84cbe7974d9436f31ec28432", func := "example.com/indexwright/indexwright/zzlaws_internal_succinct_b1.FnCodeOrderIsCanonicalOrder", spec := "fnCodeOrderIsCanonicalOrder", apart := false }
def FnCodeOrderIsCanonicalOrderSaid : Prop := fnCodeOrderIsCanonicalOrderRow.holds Try.pinned (OpenSpec.ofChange fnCodeOrderIsCanonicalOrderSpec)

/-- ITS FALSE NEIGHBOUR: 'it returns false'. Refute it at one input. -/
def fnCodeOrderIsCanonicalOrderWrong : ChangeSpec := { name := "fnCodeOrderIsCanonicalOrder", fn := fun _ => fun
  | [d] => { results := [.lit (.bool false)], args := [d] }
  | _ => none }
def FnCodeOrderIsCanonicalOrderWrongFalsely : Prop := fnCodeOrderIsCanonicalOrderRow.holds Try.pinned (OpenSpec.ofChange fnCodeOrderIsCanonicalOrderWrong)

/-- 'zzlaws_internal_succinct_b1.FnBitWriterSetMatchesBitModel': WHATEVER THE INPUT: true; the input reads as it did. -/
def fnBitWriterSetMatchesBitModelSpec : ChangeSpec := { name := "fnBitWriterSetMatchesBitModel", fn := fun _ => fun
  | [d1, d2, d3, d4, d5] => { results := [.lit (.bool true)], args := [d1, d2, d3, d4, d5] }
  | _ => none }
def fnBitWriterSetMatchesBitModelRow : OpenClaim := { program := "qxb6602643a", sum := "ae3163d36ca38a3fa329a0e0c99591d7a6232ceb84cbe7974d9436f31ec28432", func := "example.com/indexwright/indexwright/zzlaws_internal_succinct_b1.FnBitWriterSetMatchesBitModel", spec := "fnBitWriterSetMatchesBitModel", apart := false }
def FnBitWriterSetMatchesBitModelSaid : Prop := fnBitWriterSetMatchesBitModelRow.holds Try.pinned (OpenSpec.ofChange fnBitWriterSetMatchesBitModelSpec)

/-- ITS FALSE NEIGHBOUR: 'it returns false'. Refute it at one input. -/
def fnBitWriterSetMatchesBitModelWrong : ChangeSpec := { name := "fnBitWriterSetMatchesBitModel", fn := fun _ => fun
  | [d1, d2, d3, d4, d5] => { results := [.lit (.bool false)], args := [d1, d2, d3, d4, d5] }
  | _ => none }
def FnBitWriterSetMatchesBitModelWrongFalsely : Prop := fnBitWriterSetMatchesBitModelRow.holds Try.pinned (OpenSpec.ofChange fnBitWriterSetMatchesBitModelWrong)

/-- 'zzlaws_internal_succinct_b1.FnBitWriterSetDisjointWritesCommute': WHATEVER THE INPUT: true; the input reads as it did. -/
def fnBitWriterSetDisjointWritesCommuteSpec : ChangeSpec := { name := "fnBitWriterSetDisjointWritesCommute", fn := fun _ => fun
  | [d1, d2, d3, d4, d5, d6, d7, d8] => { results := [.lit (.bool true)], args := [d1, d2, d3, d4, d5, d6, d7, d8] }
  | _ => none }
def fnBitWriterSetDisjointWritesCommuteRow : OpenClaim := { program := "qxb6602643a", sum := "ae3163d36ca38a3fa329a0e0c99591d7a6232ceb84cbe7974d9436f31ec28432", func := "example.com/indexwright/indexwright/zzlaws_internal_succinct_b1.FnBitWriterSetDisjointWritesCommute", spec := "fnBitWriterSetDisjointWritesCommute", apart := false }
def FnBitWriterSetDisjointWritesCommuteSaid : Prop := fnBitWriterSetDisjointWritesCommuteRow.holds Try.pinned (OpenSpec.ofChange fnBitWriterSetDisjointWritesCommuteSpec)

/-- ITS FALSE NEIGHBOUR: 'it returns false'. Refute it at one input. -/
def fnBitWriterSetDisjointWritesCommuteWrong : ChangeSpec := { name := "fnBitWriterSetDisjointWritesCommute", fn := fun _ => fun
  | [d1, d2, d3, d4, d5, d6, d7, d8] => { results := [.lit (.bool false)], args := [d1, d2, d3, d4, d5, d6, d7, d8] }
  | _ => none }
def FnBitWriterSetDisjointWritesCommuteWrongFalsely : Prop := fnBitWriterSetDisjointWritesCommuteRow.holds Try.pinned (OpenSpec.ofChange fnBitWriterSetDisjointWritesCommuteWrong)

/-- 'zzlaws_internal_succinct_b1.FnNewShapeMatchesCanonicalTreeModel': WHATEVER THE INPUT: true; the input reads as it did. -/
def fnNewShapeMatchesCanonicalTreeModelSpec : ChangeSpec := { name := "fnNewShapeMatchesCanonicalTreeModel", fn := fun _ => fun
  | [d1, d2] => { results := [.lit (.bool true)], args := [d1, d2] }
  | _ => none }
def fnNewShapeMatchesCanonicalTreeModelRow : OpenClaim := { program := "qxb6602643a", sum := "ae3163d36ca38a3fa329a0e0c99591d7a6232ceb84cbe7974d9436f31ec28432", func := "example.com/indexwright/indexwright/zzlaws_internal_succinct_b1.FnNewShapeMatchesCanonicalTreeModel", spec := "fnNewShapeMatchesCanonicalTreeModel", apart := false }
def FnNewShapeMatchesCanonicalTreeModelSaid : Prop := fnNewShapeMatchesCanonicalTreeModelRow.holds Try.pinned (OpenSpec.ofChange fnNewShapeMatchesCanonicalTreeModelSpec)

/-- ITS FALSE NEIGHBOUR: 'it returns false'. Refute it at one input. -/
def fnNewShapeMatchesCanonicalTreeModelWrong : ChangeSpec := { name := "fnNewShapeMatchesCanonicalTreeModel", fn := fun _ => fun
  | [d1, d2] => { results := [.lit (.bool false)], args := [d1, d2] }
  | _ => none }
def FnNewShapeMatchesCanonicalTreeModelWrongFalsely : Prop := fnNewShapeMatchesCanonicalTreeModelRow.holds Try.pinned (OpenSpec.ofChange fnNewShapeMatchesCanonicalTreeModelWrong)

/-- 'zzlaws_internal_succinct_b1.FnNewShapeCodesDecodeAlongTree': WHATEVER THE INPUT: true; the input reads as it did. -/
def fnNewShapeCodesDecodeAlongTreeSpec : ChangeSpec := { name := "fnNewShapeCodesDecodeAlongTree", fn := fun _ => fun
  | [d1, d2] => { results := [.lit (.bool true)], args := [d1, d2] }
  | _ => none }
def fnNewShapeCodesDecodeAlongTreeRow : OpenClaim := { program := "qxb6602643a", sum := "ae3163d36ca38a3fa329a0e0c99591d7a6232ceb84cbe7974d9436f31ec28432", func := "example.com/indexwright/indexwright/zzlaws_internal_succinct_b1.FnNewShapeCodesDecodeAlongTree", spec := "fnNewShapeCodesDecodeAlongTree", apart := false }
def FnNewShapeCodesDecodeAlongTreeSaid : Prop := fnNewShapeCodesDecodeAlongTreeRow.holds Try.pinned (OpenSpec.ofChange fnNewShapeCodesDecodeAlongTreeSpec)

/-- ITS FALSE NEIGHBOUR: 'it returns false'. Refute it at one input. -/
def fnNewShapeCodesDecodeAlongTreeWrong : ChangeSpec := { name := "fnNewShapeCodesDecodeAlongTree", fn := fun _ => fun
  | [d1, d2] => { results := [.lit (.bool false)], args := [d1, d2] }
  | _ => none }
def FnNewShapeCodesDecodeAlongTreeWrongFalsely : Prop := fnNewShapeCodesDecodeAlongTreeRow.holds Try.pinned (OpenSpec.ofChange fnNewShapeCodesDecodeAlongTreeWrong)

end Rows
end Go.Proofs.Qxb6602643a
