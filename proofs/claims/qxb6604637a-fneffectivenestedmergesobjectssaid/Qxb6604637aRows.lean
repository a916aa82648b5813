/-
  No cell of these rows narrows 'for every input' (looked for: loops, veiled, ifaces, maps, wideKeys, modest, calm, conditions, laid).
  DERIVED. THE GIVEN ROWS OF THIS SEAT. 3 by the template 'for every input the law returns true; each argument reads behind the call as it read before'; 0 by the template 'total and deterministic' (their statements: Qxb6604637aTotals.lean).
  GIVEN WITH THE SEED: the statements are not yours to turn. If you find one false, say at which input.
  Laid BY PROGRAM, IN A SANDBOX (cutbox-rows.mjs): the forced cells as the released guide's own fill.sh prints them over the translation 8cb5107d0d831d83… (all of the seat's roots in one cut). By AI agents, Wed Nov 11 2026. No macro, syntax, notation, axiom, sorry.
-/
import Derived.Test.Qxb6604637aChecked
import GoSem.Claim
import GoSem.ClaimJoined
import GoSem.ClaimMapViews
import Derived.JoinedTies
import Derived.KernelRfl
namespace Go.Proofs.Qxb6604637a
/- THE CELL 'sum', in the pinned program and in every row, IS THE sha256 OF THE DUMP (.gsa) THAT Qxb6604637aProg.lean LOADS. Nothing in Lean hashes anything: it is a label: what it is worth is what the hold of that sum in a sandbox is worth. -/
noncomputable def Try.pinned : Pinned := { name := "qxb6604637a", sum := "8cb5107d0d831d83eb2c85db3a2ecf92ec97cd5acb58becf95a7cf6605466633", checked := Try.checked }
namespace Rows
def none {H : Type} : Left H := { results := [], args := [] }

/-- 'zzlaws_config_b1.FnEffectiveFlatLastWriterWins': WHATEVER THE INPUT: true; the input reads as it did. -/
def fnEffectiveFlatLastWriterWinsSpec : ChangeSpec := { name := "fnEffectiveFlatLastWriterWins", fn := fun _ => fun
  | [d1, d2] => { results := [.lit (.bool true)], args := [d1, d2] }
  | _ => none }
def fnEffectiveFlatLastWriterWinsRow : OpenClaim := { program := "qxb6604637a", sum := "8cb5107d0d831d83eb2c85db3a2ecf92ec97cd5acb58becf95a7cf6605466633", func := "example.com/cairn/cairn/zzlaws_config_b1.FnEffectiveFlatLastWriterWins", spec := "fnEffectiveFlatLastWriterWins", inPlace := ["maps.clone"], recurses := true, apart := false }
def FnEffectiveFlatLastWriterWinsSaid : Prop := fnEffectiveFlatLastWriterWinsRow.holds Try.pinned (OpenSpec.ofChange fnEffectiveFlatLastWriterWinsSpec)

/-- ITS FALSE NEIGHBOUR: 'it returns false'. Refute it at one input. -/
def fnEffectiveFlatLastWriterWinsWrong : ChangeSpec := { name := "fnEffectiveFlatLastWriterWins", fn := fun _ => fun
  | [d1, d2] => { results := [.lit (.bool false)], args := [d1, d2] }
  | _ => none }
def FnEffectiveFlatLastWriterWinsWrongFalsely : Prop := fnEffectiveFlatLastWriterWinsRow.holds Try.pinned (OpenSpec.ofChange fnEffectiveFlatLastWriterWinsWrong)

/-- 'zzlaws_config_b1.FnEffectiveNestedMergesObjects': WHATEVER THE INPUT: true; the input reads as it did. -/
def fnEffectiveNestedMergesObjectsSpec : ChangeSpec := { name := "fnEffectiveNestedMergesObjects", fn := fun _ => fun
  | [d1, d2, d3, d4] => { results := [.lit (.bool true)], args := [d1, d2, d3, d4] }
  | _ => none }
def fnEffectiveNestedMergesObjectsRow : OpenClaim := { program := "qxb6604637a", sum := "8cb5107d0d831d83eb2c85db3a2ecf92ec97cd5acb58becf95a7cf6605466633", func := "example.com/cairn/cairn/zzlaws_config_b1.FnEffectiveNestedMergesObjects", spec := "fnEffectiveNestedMergesObjects", inPlace := ["maps.clone"], recurses := true, apart := false }
def FnEffectiveNestedMergesObjectsSaid : Prop := fnEffectiveNestedMergesObjectsRow.holds Try.pinned (OpenSpec.ofChange fnEffectiveNestedMergesObjectsSpec)

/-- ITS FALSE NEIGHBOUR: 'it returns false'. Refute it at one input. -/
def fnEffectiveNestedMergesObjectsWrong : ChangeSpec := { name := "fnEffectiveNestedMergesObjects", fn := fun _ => fun
  | [d1, d2, d3, d4] => { results := [.lit (.bool false)], args := [d1, d2, d3, d4] }
  | _ => none }
def FnEffectiveNestedMergesObjectsWrongFalsely : Prop := fnEffectiveNestedMergesObjectsRow.holds Try.pinned (OpenSpec.ofChange fnEffectiveNestedMergesObjectsWrong)

/-- 'zzlaws_config_b1.FnDocumentMarkerFourBytesDecide': WHATEVER THE INPUT: true; the input reads as it did. -/
def fnDocumentMarkerFourBytesDecideSpec : ChangeSpec := { name := "fnDocumentMarkerFourBytesDecide", fn := fun _ => fun
  | [d] => { results := [.lit (.bool true)], args := [d] }
  | _ => none }
def fnDocumentMarkerFourBytesDecideRow : OpenClaim := { program := "qxb6604637a", sum := "8cb5107d0d831d83eb2c85db3a2ecf92ec97cd5acb58becf95a7cf6605466633", func := "example.com/cairn/cairn/zzlaws_config_b1.FnDocumentMarkerFourBytesDecide", spec := "fnDocumentMarkerFourBytesDecide", apart := false }
def FnDocumentMarkerFourBytesDecideSaid : Prop := fnDocumentMarkerFourBytesDecideRow.holds Try.pinned (OpenSpec.ofChange fnDocumentMarkerFourBytesDecideSpec)

/-- ITS FALSE NEIGHBOUR: 'it returns false'. Refute it at one input. -/
def fnDocumentMarkerFourBytesDecideWrong : ChangeSpec := { name := "fnDocumentMarkerFourBytesDecide", fn := fun _ => fun
  | [d] => { results := [.lit (.bool false)], args := [d] }
  | _ => none }
def FnDocumentMarkerFourBytesDecideWrongFalsely : Prop := fnDocumentMarkerFourBytesDecideRow.holds Try.pinned (OpenSpec.ofChange fnDocumentMarkerFourBytesDecideWrong)

end Rows
end Go.Proofs.Qxb6604637a
