/-
  No cell of these rows narrows 'for every input' (looked for: loops, veiled, ifaces, maps, wideKeys, modest, calm, conditions, laid).
  DERIVED. THE GIVEN ROWS OF THIS SEAT. 5 by the template 'for every input the law returns true; each argument reads behind the call as it read before'; 0 by the template 'total and deterministic' (their statements: Qxb6000022aTotals.lean).
  GIVEN WITH THE SEED: the statements are not yours to turn. If you find one false, say at which input.
  Laid BY PROGRAM, IN A SANDBOX (cutbox-rows.mjs): the forced cells as the released guide's own fill.sh prints them over the translation e4ccb238c61eb786… (all of the seat's roots in one cut). By AI agents, Wed Nov 11 2026. No macro, syntax, notation, axiom, sorry.
-/
import Derived.Test.Qxb6000022aChecked
import GoSem.Claim
import GoSem.ClaimJoined
import GoSem.ClaimMapViews
import Derived.JoinedTies
import Derived.KernelRfl
namespace Go.Proofs.Qxb6000022a
/- THE CELL 'sum', in the pinned program and in every row, IS THE sha256 OF THE DUMP (.gsa) THAT Qxb6000022aProg.lean LOADS. Nothing in Lean hashes anything: it is a label: what it is worth is what the hold of that sum in a sandbox is worth. -/
noncomputable def Try.pinned : Pinned := { name := "qxb6000022a", sum := "e4ccb238c61eb7861ee4ee120609a8becdf8fde353dce60c33990909f4a315e3", checked := Try.checked }
namespace Rows
def none {H : Type} : Left H := { results := [], args := [] }

/-- 'zzlaws_internal_jsonobject_b1.FnPlainStringFirstQuoteSpec': WHATEVER THE INPUT: true; the input reads as it did. -/
def fnPlainStringFirstQuoteSpecSpec : ChangeSpec := { name := "fnPlainStringFirstQuoteSpec", fn := fun _ => fun
  | [d1, d2] => { results := [.lit (.bool true)], args := [d1, d2] }
  | _ => none }
def fnPlainStringFirstQuoteSpecRow : OpenClaim := { program := "qxb6000022a", sum := "e4ccb238c61eb7861ee4ee120609a8becdf8fde353dce60c33990909f4a315e3", func := "example.com/kinkline/kinkline/zzlaws_internal_jsonobject_b1.FnPlainStringFirstQuoteSpec", spec := "fnPlainStringFirstQuoteSpec", apart := false }
def FnPlainStringFirstQuoteSpecSaid : Prop := fnPlainStringFirstQuoteSpecRow.holds Try.pinned (OpenSpec.ofChange fnPlainStringFirstQuoteSpecSpec)

/-- ITS FALSE NEIGHBOUR: 'it returns false'. Refute it at one input. -/
def fnPlainStringFirstQuoteSpecWrong : ChangeSpec := { name := "fnPlainStringFirstQuoteSpec", fn := fun _ => fun
  | [d1, d2] => { results := [.lit (.bool false)], args := [d1, d2] }
  | _ => none }
def FnPlainStringFirstQuoteSpecWrongFalsely : Prop := fnPlainStringFirstQuoteSpecRow.holds Try.pinned (OpenSpec.ofChange fnPlainStringFirstQuoteSpecWrong)

/-- 'zzlaws_internal_jsonobject_b1.FnPlainStringRoundTrip': WHATEVER THE INPUT: true; the input reads as it did. -/
def fnPlainStringRoundTripSpec : ChangeSpec := { name := "fnPlainStringRoundTrip", fn := fun _ => fun
  | [d1, d2, d3] => { results := [.lit (.bool true)], args := [d1, d2, d3] }
  | _ => none }
def fnPlainStringRoundTripRow : OpenClaim := { program := "qxb6000022a", sum := "e4ccb238c61eb7861ee4ee120609a8becdf8fde353dce60c33990909f4a315e3", func := "example.com/kinkline/kinkline/zzlaws_internal_jsonobject_b1.FnPlainStringRoundTrip", spec := "fnPlainStringRoundTrip", apart := false }
def FnPlainStringRoundTripSaid : Prop := fnPlainStringRoundTripRow.holds Try.pinned (OpenSpec.ofChange fnPlainStringRoundTripSpec)

/-- ITS FALSE NEIGHBOUR: 'it returns false'. Refute it at one input. -/
def fnPlainStringRoundTripWrong : ChangeSpec := { name := "fnPlainStringRoundTrip", fn := fun _ => fun
  | [d1, d2, d3] => { results := [.lit (.bool false)], args := [d1, d2, d3] }
  | _ => none }
def FnPlainStringRoundTripWrongFalsely : Prop := fnPlainStringRoundTripRow.holds Try.pinned (OpenSpec.ofChange fnPlainStringRoundTripWrong)

/-- 'zzlaws_internal_jsonobject_b1.FnPlainStringRefusesEscapesAndControls': WHATEVER THE INPUT: true; the input reads as it did. -/
def fnPlainStringRefusesEscapesAndControlsSpec : ChangeSpec := { name := "fnPlainStringRefusesEscapesAndControls", fn := fun _ => fun
  | [d1, d2, d3] => { results := [.lit (.bool true)], args := [d1, d2, d3] }
  | _ => none }
def fnPlainStringRefusesEscapesAndControlsRow : OpenClaim := { program := "qxb6000022a", sum := "e4ccb238c61eb7861ee4ee120609a8becdf8fde353dce60c33990909f4a315e3", func := "example.com/kinkline/kinkline/zzlaws_internal_jsonobject_b1.FnPlainStringRefusesEscapesAndControls", spec := "fnPlainStringRefusesEscapesAndControls", apart := false }
def FnPlainStringRefusesEscapesAndControlsSaid : Prop := fnPlainStringRefusesEscapesAndControlsRow.holds Try.pinned (OpenSpec.ofChange fnPlainStringRefusesEscapesAndControlsSpec)

/-- ITS FALSE NEIGHBOUR: 'it returns false'. Refute it at one input. -/
def fnPlainStringRefusesEscapesAndControlsWrong : ChangeSpec := { name := "fnPlainStringRefusesEscapesAndControls", fn := fun _ => fun
  | [d1, d2, d3] => { results := [.lit (.bool false)], args := [d1, d2, d3] }
  | _ => none }
def FnPlainStringRefusesEscapesAndControlsWrongFalsely : Prop := fnPlainStringRefusesEscapesAndControlsRow.holds Try.pinned (OpenSpec.ofChange fnPlainStringRefusesEscapesAndControlsWrong)

/-- 'zzlaws_internal_jsonobject_b1.FnPlainValueLongestPlainPrefix': WHATEVER THE INPUT: true; the input reads as it did. -/
def fnPlainValueLongestPlainPrefixSpec : ChangeSpec := { name := "fnPlainValueLongestPlainPrefix", fn := fun _ => fun
  | [d1, d2] => { results := [.lit (.bool true)], args := [d1, d2] }
  | _ => none }
def fnPlainValueLongestPlainPrefixRow : OpenClaim := { program := "qxb6000022a", sum := "e4ccb238c61eb7861ee4ee120609a8becdf8fde353dce60c33990909f4a315e3", func := "example.com/kinkline/kinkline/zzlaws_internal_jsonobject_b1.FnPlainValueLongestPlainPrefix", spec := "fnPlainValueLongestPlainPrefix", apart := false }
def FnPlainValueLongestPlainPrefixSaid : Prop := fnPlainValueLongestPlainPrefixRow.holds Try.pinned (OpenSpec.ofChange fnPlainValueLongestPlainPrefixSpec)

/-- ITS FALSE NEIGHBOUR: 'it returns false'. Refute it at one input. -/
def fnPlainValueLongestPlainPrefixWrong : ChangeSpec := { name := "fnPlainValueLongestPlainPrefix", fn := fun _ => fun
  | [d1, d2] => { results := [.lit (.bool false)], args := [d1, d2] }
  | _ => none }
def FnPlainValueLongestPlainPrefixWrongFalsely : Prop := fnPlainValueLongestPlainPrefixRow.holds Try.pinned (OpenSpec.ofChange fnPlainValueLongestPlainPrefixWrong)

/-- 'zzlaws_internal_jsonobject_b1.FnPlainValueDependsOnlyOnItsOwnBytes': WHATEVER THE INPUT: true; the input reads as it did. -/
def fnPlainValueDependsOnlyOnItsOwnBytesSpec : ChangeSpec := { name := "fnPlainValueDependsOnlyOnItsOwnBytes", fn := fun _ => fun
  | [d1, d2, d3] => { results := [.lit (.bool true)], args := [d1, d2, d3] }
  | _ => none }
def fnPlainValueDependsOnlyOnItsOwnBytesRow : OpenClaim := { program := "qxb6000022a", sum := "e4ccb238c61eb7861ee4ee120609a8becdf8fde353dce60c33990909f4a315e3", func := "example.com/kinkline/kinkline/zzlaws_internal_jsonobject_b1.FnPlainValueDependsOnlyOnItsOwnBytes", spec := "fnPlainValueDependsOnlyOnItsOwnBytes", apart := false }
def FnPlainValueDependsOnlyOnItsOwnBytesSaid : Prop := fnPlainValueDependsOnlyOnItsOwnBytesRow.holds Try.pinned (OpenSpec.ofChange fnPlainValueDependsOnlyOnItsOwnBytesSpec)

/-- ITS FALSE NEIGHBOUR: 'it returns false'. Refute it at one input. -/
def fnPlainValueDependsOnlyOnItsOwnBytesWrong : ChangeSpec := { name := "fnPlainValueDependsOnlyOnItsOwnBytes", fn := fun _ => fun
  | [d1, d2, d3] => { results := [.lit (.bool false)], args := [d1, d2, d3] }
  | _ => none }
def FnPlainValueDependsOnlyOnItsOwnBytesWrongFalsely : Prop := fnPlainValueDependsOnlyOnItsOwnBytesRow.holds Try.pinned (OpenSpec.ofChange fnPlainValueDependsOnlyOnItsOwnBytesWrong)

end Rows
end Go.Proofs.Qxb6000022a
