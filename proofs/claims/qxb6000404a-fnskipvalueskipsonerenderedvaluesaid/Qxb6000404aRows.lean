/-
  No cell of these rows narrows 'for every input' (looked for: loops, veiled, ifaces, maps, wideKeys, modest, calm, conditions, laid).
  DERIVED. THE GIVEN ROWS OF THIS SEAT. 5 by the template 'for every input the law returns true; each argument reads behind the call as it read before'; 0 by the template 'total and deterministic' (their statements: Qxb6000404aTotals.lean).
  GIVEN WITH THE SEED: the statements are not yours to turn. If you find one false, say at which input.
  Laid BY PROGRAM, IN A SANDBOX (cutbox-rows.mjs): the forced cells as the released guide's own fill.sh prints them over the translation f388ad0f4d630f1e… (all of the seat's roots in one cut). By AI agents, Wed Nov 11 2026. No macro, syntax, notation, axiom, sorry.
-/
import Derived.Test.Qxb6000404aChecked
import GoSem.Claim
import GoSem.ClaimJoined
import GoSem.ClaimMapViews
import Derived.JoinedTies
import Derived.KernelRfl
namespace Go.Proofs.Qxb6000404a
/- THE CELL 'sum', in the pinned program and in every row, IS THE sha256 OF THE DUMP (.gsa) THAT Qxb6000404aProg.lean LOADS. Nothing in Lean hashes anything: it is a label: what it is worth is what the hold of that sum in a sandbox is worth. -/
noncomputable def Try.pinned : Pinned := { name := "qxb6000404a", sum := "f388ad0f4d630f1ed80e411270010458a1975783fca9d01f776f6b169d6f4420", checked := Try.checked }
namespace Rows
def none {H : Type} : Left H := { results := [], args := [] }

/-- 'zzlaws_internal_yamljson_b1.FnFlowPlainScanShape': WHATEVER THE INPUT: true; the input reads as it did. -/
def fnFlowPlainScanShapeSpec : ChangeSpec := { name := "fnFlowPlainScanShape", fn := fun _ => fun
  | [d1, d2, d3] => { results := [.lit (.bool true)], args := [d1, d2, d3] }
  | _ => none }
def fnFlowPlainScanShapeRow : OpenClaim := { program := "qxb6000404a", sum := "f388ad0f4d630f1ed80e411270010458a1975783fca9d01f776f6b169d6f4420", func := "example.com/hallpass/hallpass/zzlaws_internal_yamljson_b1.FnFlowPlainScanShape", spec := "fnFlowPlainScanShape", apart := false }
def FnFlowPlainScanShapeSaid : Prop := fnFlowPlainScanShapeRow.holds Try.pinned (OpenSpec.ofChange fnFlowPlainScanShapeSpec)

/-- ITS FALSE NEIGHBOUR: 'it returns false'. Refute it at one input. -/
def fnFlowPlainScanShapeWrong : ChangeSpec := { name := "fnFlowPlainScanShape", fn := fun _ => fun
  | [d1, d2, d3] => { results := [.lit (.bool false)], args := [d1, d2, d3] }
  | _ => none }
def FnFlowPlainScanShapeWrongFalsely : Prop := fnFlowPlainScanShapeRow.holds Try.pinned (OpenSpec.ofChange fnFlowPlainScanShapeWrong)

/-- 'zzlaws_internal_yamljson_b1.FnWithinCountsNotesEndingByItsStart': WHATEVER THE INPUT: true; the input reads as it did. -/
def fnWithinCountsNotesEndingByItsStartSpec : ChangeSpec := { name := "fnWithinCountsNotesEndingByItsStart", fn := fun _ => fun
  | [d1, d2, d3] => { results := [.lit (.bool true)], args := [d1, d2, d3] }
  | _ => none }
def fnWithinCountsNotesEndingByItsStartRow : OpenClaim := { program := "qxb6000404a", sum := "f388ad0f4d630f1ed80e411270010458a1975783fca9d01f776f6b169d6f4420", func := "example.com/hallpass/hallpass/zzlaws_internal_yamljson_b1.FnWithinCountsNotesEndingByItsStart", spec := "fnWithinCountsNotesEndingByItsStart", apart := false }
def FnWithinCountsNotesEndingByItsStartSaid : Prop := fnWithinCountsNotesEndingByItsStartRow.holds Try.pinned (OpenSpec.ofChange fnWithinCountsNotesEndingByItsStartSpec)

/-- ITS FALSE NEIGHBOUR: 'it returns false'. Refute it at one input. -/
def fnWithinCountsNotesEndingByItsStartWrong : ChangeSpec := { name := "fnWithinCountsNotesEndingByItsStart", fn := fun _ => fun
  | [d1, d2, d3] => { results := [.lit (.bool false)], args := [d1, d2, d3] }
  | _ => none }
def FnWithinCountsNotesEndingByItsStartWrongFalsely : Prop := fnWithinCountsNotesEndingByItsStartRow.holds Try.pinned (OpenSpec.ofChange fnWithinCountsNotesEndingByItsStartWrong)

/-- 'zzlaws_internal_yamljson_b1.FnWithinFindsOnlyNestedNotes': WHATEVER THE INPUT: true; the input reads as it did. -/
def fnWithinFindsOnlyNestedNotesSpec : ChangeSpec := { name := "fnWithinFindsOnlyNestedNotes", fn := fun _ => fun
  | [d1, d2, d3] => { results := [.lit (.bool true)], args := [d1, d2, d3] }
  | _ => none }
def fnWithinFindsOnlyNestedNotesRow : OpenClaim := { program := "qxb6000404a", sum := "f388ad0f4d630f1ed80e411270010458a1975783fca9d01f776f6b169d6f4420", func := "example.com/hallpass/hallpass/zzlaws_internal_yamljson_b1.FnWithinFindsOnlyNestedNotes", spec := "fnWithinFindsOnlyNestedNotes", apart := false }
def FnWithinFindsOnlyNestedNotesSaid : Prop := fnWithinFindsOnlyNestedNotesRow.holds Try.pinned (OpenSpec.ofChange fnWithinFindsOnlyNestedNotesSpec)

/-- ITS FALSE NEIGHBOUR: 'it returns false'. Refute it at one input. -/
def fnWithinFindsOnlyNestedNotesWrong : ChangeSpec := { name := "fnWithinFindsOnlyNestedNotes", fn := fun _ => fun
  | [d1, d2, d3] => { results := [.lit (.bool false)], args := [d1, d2, d3] }
  | _ => none }
def FnWithinFindsOnlyNestedNotesWrongFalsely : Prop := fnWithinFindsOnlyNestedNotesRow.holds Try.pinned (OpenSpec.ofChange fnWithinFindsOnlyNestedNotesWrong)

/-- 'zzlaws_internal_yamljson_b1.FnSkipValueSkipsOneRenderedValue': WHATEVER THE INPUT: true; the input reads as it did. -/
def fnSkipValueSkipsOneRenderedValueSpec : ChangeSpec := { name := "fnSkipValueSkipsOneRenderedValue", fn := fun _ => fun
  | [d1, d2, d3, d4, d5, d6, d7, d8] => { results := [.lit (.bool true)], args := [d1, d2, d3, d4, d5, d6, d7, d8] }
  | _ => none }
def fnSkipValueSkipsOneRenderedValueRow : OpenClaim := { program := "qxb6000404a", sum := "f388ad0f4d630f1ed80e411270010458a1975783fca9d01f776f6b169d6f4420", func := "example.com/hallpass/hallpass/zzlaws_internal_yamljson_b1.FnSkipValueSkipsOneRenderedValue", spec := "fnSkipValueSkipsOneRenderedValue", apart := false }
def FnSkipValueSkipsOneRenderedValueSaid : Prop := fnSkipValueSkipsOneRenderedValueRow.holds Try.pinned (OpenSpec.ofChange fnSkipValueSkipsOneRenderedValueSpec)

/-- ITS FALSE NEIGHBOUR: 'it returns false'. Refute it at one input. -/
def fnSkipValueSkipsOneRenderedValueWrong : ChangeSpec := { name := "fnSkipValueSkipsOneRenderedValue", fn := fun _ => fun
  | [d1, d2, d3, d4, d5, d6, d7, d8] => { results := [.lit (.bool false)], args := [d1, d2, d3, d4, d5, d6, d7, d8] }
  | _ => none }
def FnSkipValueSkipsOneRenderedValueWrongFalsely : Prop := fnSkipValueSkipsOneRenderedValueRow.holds Try.pinned (OpenSpec.ofChange fnSkipValueSkipsOneRenderedValueWrong)

/-- 'zzlaws_internal_yamljson_b1.FnSkipValueWalksAList': WHATEVER THE INPUT: true; the input reads as it did. -/
def fnSkipValueWalksAListSpec : ChangeSpec := { name := "fnSkipValueWalksAList", fn := fun _ => fun
  | [d1, d2, d3, d4] => { results := [.lit (.bool true)], args := [d1, d2, d3, d4] }
  | _ => none }
def fnSkipValueWalksAListRow : OpenClaim := { program := "qxb6000404a", sum := "f388ad0f4d630f1ed80e411270010458a1975783fca9d01f776f6b169d6f4420", func := "example.com/hallpass/hallpass/zzlaws_internal_yamljson_b1.FnSkipValueWalksAList", spec := "fnSkipValueWalksAList", apart := false }
def FnSkipValueWalksAListSaid : Prop := fnSkipValueWalksAListRow.holds Try.pinned (OpenSpec.ofChange fnSkipValueWalksAListSpec)

/-- ITS FALSE NEIGHBOUR: 'it returns false'. Refute it at one input. -/
def fnSkipValueWalksAListWrong : ChangeSpec := { name := "fnSkipValueWalksAList", fn := fun _ => fun
  | [d1, d2, d3, d4] => { results := [.lit (.bool false)], args := [d1, d2, d3, d4] }
  | _ => none }
def FnSkipValueWalksAListWrongFalsely : Prop := fnSkipValueWalksAListRow.holds Try.pinned (OpenSpec.ofChange fnSkipValueWalksAListWrong)

end Rows
end Go.Proofs.Qxb6000404a
