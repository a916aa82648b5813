/-
  No cell of these rows narrows 'for every input' (looked for: loops, veiled, ifaces, maps, wideKeys, modest, calm, conditions, laid).
  DERIVED. THE GIVEN ROWS OF THIS SEAT. 6 by the template 'for every input the law returns true; each argument reads behind the call as it read before'; 0 by the template 'total and deterministic' (their statements: Qxb6602813aTotals.lean).
  GIVEN WITH THE SEED: the statements are not yours to turn. If you find one false, say at which input.
  Laid BY PROGRAM, IN A SANDBOX (cutbox-rows.mjs): the forced cells as the released guide's own fill.sh prints them over the translation f5a71b3e53919eeb… (all of the seat's roots in one cut). By AI agents, Wed Nov 11 2026. No macro, syntax, notation, axiom, sorry.
-/
import Derived.Test.Qxb6602813aChecked
import GoSem.Claim
import GoSem.ClaimJoined
import GoSem.ClaimMapViews
import Derived.JoinedTies
import Derived.KernelRfl
namespace Go.Proofs.Qxb6602813a
/- THE CELL 'sum', in the pinned program and in every row, IS THE sha256 OF THE DUMP (.gsa) THAT Qxb6602813aProg.lean LOADS. Nothing in Lean hashes anything: it is a label: what it is worth is what the hold of that sum in a sandbox is worth. -/
noncomputable def Try.pinned : Pinned := { name := "qxb6602813a", sum := "f5a71b3e53919eeb7cf1558e0ccfa119837b60853d67764892d472855bef50e2", checked := Try.checked }
namespace Rows
def none {H : Type} : Left H := { results := [], args := [] }

/-- 'zzlaws_internal_canonjson_b1.FnHexDigitTable': WHATEVER THE INPUT: true; the input reads as it did. -/
def fnHexDigitTableSpec : ChangeSpec := { name := "fnHexDigitTable", fn := fun _ => fun
  | [d] => { results := [.lit (.bool true)], args := [d] }
  | _ => none }
def fnHexDigitTableRow : OpenClaim := { program := "qxb6602813a", sum := "f5a71b3e53919eeb7cf1558e0ccfa119837b60853d67764892d472855bef50e2", func := "example.com/dalang/dalang/zzlaws_internal_canonjson_b1.FnHexDigitTable", spec := "fnHexDigitTable", apart := false }
def FnHexDigitTableSaid : Prop := fnHexDigitTableRow.holds Try.pinned (OpenSpec.ofChange fnHexDigitTableSpec)

/-- ITS FALSE NEIGHBOUR: 'it returns false'. Refute it at one input. -/
def fnHexDigitTableWrong : ChangeSpec := { name := "fnHexDigitTable", fn := fun _ => fun
  | [d] => { results := [.lit (.bool false)], args := [d] }
  | _ => none }
def FnHexDigitTableWrongFalsely : Prop := fnHexDigitTableRow.holds Try.pinned (OpenSpec.ofChange fnHexDigitTableWrong)

/-- 'zzlaws_internal_canonjson_b1.FnHexDigitIgnoresCase': WHATEVER THE INPUT: true; the input reads as it did. -/
def fnHexDigitIgnoresCaseSpec : ChangeSpec := { name := "fnHexDigitIgnoresCase", fn := fun _ => fun
  | [d] => { results := [.lit (.bool true)], args := [d] }
  | _ => none }
def fnHexDigitIgnoresCaseRow : OpenClaim := { program := "qxb6602813a", sum := "f5a71b3e53919eeb7cf1558e0ccfa119837b60853d67764892d472855bef50e2", func := "example.com/dalang/dalang/zzlaws_internal_canonjson_b1.FnHexDigitIgnoresCase", spec := "fnHexDigitIgnoresCase", apart := false }
def FnHexDigitIgnoresCaseSaid : Prop := fnHexDigitIgnoresCaseRow.holds Try.pinned (OpenSpec.ofChange fnHexDigitIgnoresCaseSpec)

/-- ITS FALSE NEIGHBOUR: 'it returns false'. Refute it at one input. -/
def fnHexDigitIgnoresCaseWrong : ChangeSpec := { name := "fnHexDigitIgnoresCase", fn := fun _ => fun
  | [d] => { results := [.lit (.bool false)], args := [d] }
  | _ => none }
def FnHexDigitIgnoresCaseWrongFalsely : Prop := fnHexDigitIgnoresCaseRow.holds Try.pinned (OpenSpec.ofChange fnHexDigitIgnoresCaseWrong)

/-- 'zzlaws_internal_canonjson_b1.FnNotedMatchesLinearScan': WHATEVER THE INPUT: true; the input reads as it did. -/
def fnNotedMatchesLinearScanSpec : ChangeSpec := { name := "fnNotedMatchesLinearScan", fn := fun _ => fun
  | [d1, d2, d3, d4, d5] => { results := [.lit (.bool true)], args := [d1, d2, d3, d4, d5] }
  | _ => none }
def fnNotedMatchesLinearScanRow : OpenClaim := { program := "qxb6602813a", sum := "f5a71b3e53919eeb7cf1558e0ccfa119837b60853d67764892d472855bef50e2", func := "example.com/dalang/dalang/zzlaws_internal_canonjson_b1.FnNotedMatchesLinearScan", spec := "fnNotedMatchesLinearScan", apart := false }
def FnNotedMatchesLinearScanSaid : Prop := fnNotedMatchesLinearScanRow.holds Try.pinned (OpenSpec.ofChange fnNotedMatchesLinearScanSpec)

/-- ITS FALSE NEIGHBOUR: 'it returns false'. Refute it at one input. -/
def fnNotedMatchesLinearScanWrong : ChangeSpec := { name := "fnNotedMatchesLinearScan", fn := fun _ => fun
  | [d1, d2, d3, d4, d5] => { results := [.lit (.bool false)], args := [d1, d2, d3, d4, d5] }
  | _ => none }
def FnNotedMatchesLinearScanWrongFalsely : Prop := fnNotedMatchesLinearScanRow.holds Try.pinned (OpenSpec.ofChange fnNotedMatchesLinearScanWrong)

/-- 'zzlaws_internal_canonjson_b1.FnNotedFindsEachStored': WHATEVER THE INPUT: true; the input reads as it did. -/
def fnNotedFindsEachStoredSpec : ChangeSpec := { name := "fnNotedFindsEachStored", fn := fun _ => fun
  | [d1, d2, d3, d4, d5] => { results := [.lit (.bool true)], args := [d1, d2, d3, d4, d5] }
  | _ => none }
def fnNotedFindsEachStoredRow : OpenClaim := { program := "qxb6602813a", sum := "f5a71b3e53919eeb7cf1558e0ccfa119837b60853d67764892d472855bef50e2", func := "example.com/dalang/dalang/zzlaws_internal_canonjson_b1.FnNotedFindsEachStored", spec := "fnNotedFindsEachStored", apart := false }
def FnNotedFindsEachStoredSaid : Prop := fnNotedFindsEachStoredRow.holds Try.pinned (OpenSpec.ofChange fnNotedFindsEachStoredSpec)

/-- ITS FALSE NEIGHBOUR: 'it returns false'. Refute it at one input. -/
def fnNotedFindsEachStoredWrong : ChangeSpec := { name := "fnNotedFindsEachStored", fn := fun _ => fun
  | [d1, d2, d3, d4, d5] => { results := [.lit (.bool false)], args := [d1, d2, d3, d4, d5] }
  | _ => none }
def FnNotedFindsEachStoredWrongFalsely : Prop := fnNotedFindsEachStoredRow.holds Try.pinned (OpenSpec.ofChange fnNotedFindsEachStoredWrong)

/-- 'zzlaws_internal_canonjson_b1.FnMemberEndMatchesParser': WHATEVER THE INPUT: true; the input reads as it did. -/
def fnMemberEndMatchesParserSpec : ChangeSpec := { name := "fnMemberEndMatchesParser", fn := fun _ => fun
  | [d1, d2] => { results := [.lit (.bool true)], args := [d1, d2] }
  | _ => none }
def fnMemberEndMatchesParserRow : OpenClaim := { program := "qxb6602813a", sum := "f5a71b3e53919eeb7cf1558e0ccfa119837b60853d67764892d472855bef50e2", func := "example.com/dalang/dalang/zzlaws_internal_canonjson_b1.FnMemberEndMatchesParser", spec := "fnMemberEndMatchesParser", recurses := true, apart := false }
def FnMemberEndMatchesParserSaid : Prop := fnMemberEndMatchesParserRow.holds Try.pinned (OpenSpec.ofChange fnMemberEndMatchesParserSpec)

/-- ITS FALSE NEIGHBOUR: 'it returns false'. Refute it at one input. -/
def fnMemberEndMatchesParserWrong : ChangeSpec := { name := "fnMemberEndMatchesParser", fn := fun _ => fun
  | [d1, d2] => { results := [.lit (.bool false)], args := [d1, d2] }
  | _ => none }
def FnMemberEndMatchesParserWrongFalsely : Prop := fnMemberEndMatchesParserRow.holds Try.pinned (OpenSpec.ofChange fnMemberEndMatchesParserWrong)

/-- 'zzlaws_internal_canonjson_b1.FnMemberEndWalksMembers': WHATEVER THE INPUT: true; the input reads as it did. -/
def fnMemberEndWalksMembersSpec : ChangeSpec := { name := "fnMemberEndWalksMembers", fn := fun _ => fun
  | [d] => { results := [.lit (.bool true)], args := [d] }
  | _ => none }
def fnMemberEndWalksMembersRow : OpenClaim := { program := "qxb6602813a", sum := "f5a71b3e53919eeb7cf1558e0ccfa119837b60853d67764892d472855bef50e2", func := "example.com/dalang/dalang/zzlaws_internal_canonjson_b1.FnMemberEndWalksMembers", spec := "fnMemberEndWalksMembers", recurses := true, apart := false }
def FnMemberEndWalksMembersSaid : Prop := fnMemberEndWalksMembersRow.holds Try.pinned (OpenSpec.ofChange fnMemberEndWalksMembersSpec)

/-- ITS FALSE NEIGHBOUR: 'it returns false'. Refute it at one input. -/
def fnMemberEndWalksMembersWrong : ChangeSpec := { name := "fnMemberEndWalksMembers", fn := fun _ => fun
  | [d] => { results := [.lit (.bool false)], args := [d] }
  | _ => none }
def FnMemberEndWalksMembersWrongFalsely : Prop := fnMemberEndWalksMembersRow.holds Try.pinned (OpenSpec.ofChange fnMemberEndWalksMembersWrong)

end Rows
end Go.Proofs.Qxb6602813a
