/-
  No cell of these rows narrows 'for every input' (looked for: loops, veiled, ifaces, maps, wideKeys, modest, calm, conditions, laid).
  DERIVED. THE GIVEN ROWS OF THIS SEAT. 9 by the template 'for every input the law returns true; each argument reads behind the call as it read before'; 0 by the template 'total and deterministic' (their statements: Qxb6000664aTotals.lean).
  GIVEN WITH THE SEED: the statements are not yours to turn. If you find one false, say at which input.
  Laid BY PROGRAM, IN A SANDBOX (cutbox-rows.mjs): the forced cells as the released guide's own fill.sh prints them over the translation c2a567659584fa12… (all of the seat's roots in one cut). By AI agents, Wed Nov 11 2026. No macro, syntax, notation, axiom, sorry.
-/
import Derived.Test.Qxb6000664aChecked
import GoSem.Claim
import GoSem.ClaimJoined
import GoSem.ClaimMapViews
import Derived.JoinedTies
import Derived.KernelRfl
namespace Go.Proofs.Qxb6000664a
/- THE CELL 'sum', in the pinned program and in every row, IS THE sha256 OF THE DUMP (.gsa) THAT Qxb6000664aProg.lean LOADS. Nothing in Lean hashes anything: it is a label: what it is worth is what the hold of that sum in a sandbox is worth. -/
noncomputable def Try.pinned : Pinned := { name := "qxb6000664a", sum := "c2a567659584fa12b0879f6bd8486f44f9f6c03c7d3f6c3a041c1b377edb5d7f", checked := Try.checked }
namespace Rows
def none {H : Type} : Left H := { results := [], args := [] }

/-- 'zzlaws_internal_event_b1.FnAppendStringRoundTrip': WHATEVER THE INPUT: true; the input reads as it did. -/
def fnAppendStringRoundTripSpec : ChangeSpec := { name := "fnAppendStringRoundTrip", fn := fun _ => fun
  | [d1, d2] => { results := [.lit (.bool true)], args := [d1, d2] }
  | _ => none }
def fnAppendStringRoundTripRow : OpenClaim := { program := "qxb6000664a", sum := "c2a567659584fa12b0879f6bd8486f44f9f6c03c7d3f6c3a041c1b377edb5d7f", func := "example.com/lineage-gate/lineage-gate/zzlaws_internal_event_b1.FnAppendStringRoundTrip", spec := "fnAppendStringRoundTrip", apart := false }
def FnAppendStringRoundTripSaid : Prop := fnAppendStringRoundTripRow.holds Try.pinned (OpenSpec.ofChange fnAppendStringRoundTripSpec)

/-- ITS FALSE NEIGHBOUR: 'it returns false'. Refute it at one input. -/
def fnAppendStringRoundTripWrong : ChangeSpec := { name := "fnAppendStringRoundTrip", fn := fun _ => fun
  | [d1, d2] => { results := [.lit (.bool false)], args := [d1, d2] }
  | _ => none }
def FnAppendStringRoundTripWrongFalsely : Prop := fnAppendStringRoundTripRow.holds Try.pinned (OpenSpec.ofChange fnAppendStringRoundTripWrong)

/-- 'zzlaws_internal_event_b1.FnAppendStringConcat': WHATEVER THE INPUT: true; the input reads as it did. -/
def fnAppendStringConcatSpec : ChangeSpec := { name := "fnAppendStringConcat", fn := fun _ => fun
  | [d1, d2] => { results := [.lit (.bool true)], args := [d1, d2] }
  | _ => none }
def fnAppendStringConcatRow : OpenClaim := { program := "qxb6000664a", sum := "c2a567659584fa12b0879f6bd8486f44f9f6c03c7d3f6c3a041c1b377edb5d7f", func := "example.com/lineage-gate/lineage-gate/zzlaws_internal_event_b1.FnAppendStringConcat", spec := "fnAppendStringConcat", apart := false }
def FnAppendStringConcatSaid : Prop := fnAppendStringConcatRow.holds Try.pinned (OpenSpec.ofChange fnAppendStringConcatSpec)

/-- ITS FALSE NEIGHBOUR: 'it returns false'. Refute it at one input. -/
def fnAppendStringConcatWrong : ChangeSpec := { name := "fnAppendStringConcat", fn := fun _ => fun
  | [d1, d2] => { results := [.lit (.bool false)], args := [d1, d2] }
  | _ => none }
def FnAppendStringConcatWrongFalsely : Prop := fnAppendStringConcatRow.holds Try.pinned (OpenSpec.ofChange fnAppendStringConcatWrong)

/-- 'zzlaws_internal_event_b1.FnAppendStringShape': WHATEVER THE INPUT: true; the input reads as it did. -/
def fnAppendStringShapeSpec : ChangeSpec := { name := "fnAppendStringShape", fn := fun _ => fun
  | [d] => { results := [.lit (.bool true)], args := [d] }
  | _ => none }
def fnAppendStringShapeRow : OpenClaim := { program := "qxb6000664a", sum := "c2a567659584fa12b0879f6bd8486f44f9f6c03c7d3f6c3a041c1b377edb5d7f", func := "example.com/lineage-gate/lineage-gate/zzlaws_internal_event_b1.FnAppendStringShape", spec := "fnAppendStringShape", apart := false }
def FnAppendStringShapeSaid : Prop := fnAppendStringShapeRow.holds Try.pinned (OpenSpec.ofChange fnAppendStringShapeSpec)

/-- ITS FALSE NEIGHBOUR: 'it returns false'. Refute it at one input. -/
def fnAppendStringShapeWrong : ChangeSpec := { name := "fnAppendStringShape", fn := fun _ => fun
  | [d] => { results := [.lit (.bool false)], args := [d] }
  | _ => none }
def FnAppendStringShapeWrongFalsely : Prop := fnAppendStringShapeRow.holds Try.pinned (OpenSpec.ofChange fnAppendStringShapeWrong)

/-- 'zzlaws_internal_event_b1.FnTooDeepFirstBracket': WHATEVER THE INPUT: true; the input reads as it did. -/
def fnTooDeepFirstBracketSpec : ChangeSpec := { name := "fnTooDeepFirstBracket", fn := fun _ => fun
  | [d1, d2] => { results := [.lit (.bool true)], args := [d1, d2] }
  | _ => none }
def fnTooDeepFirstBracketRow : OpenClaim := { program := "qxb6000664a", sum := "c2a567659584fa12b0879f6bd8486f44f9f6c03c7d3f6c3a041c1b377edb5d7f", func := "example.com/lineage-gate/lineage-gate/zzlaws_internal_event_b1.FnTooDeepFirstBracket", spec := "fnTooDeepFirstBracket", apart := false }
def FnTooDeepFirstBracketSaid : Prop := fnTooDeepFirstBracketRow.holds Try.pinned (OpenSpec.ofChange fnTooDeepFirstBracketSpec)

/-- ITS FALSE NEIGHBOUR: 'it returns false'. Refute it at one input. -/
def fnTooDeepFirstBracketWrong : ChangeSpec := { name := "fnTooDeepFirstBracket", fn := fun _ => fun
  | [d1, d2] => { results := [.lit (.bool false)], args := [d1, d2] }
  | _ => none }
def FnTooDeepFirstBracketWrongFalsely : Prop := fnTooDeepFirstBracketRow.holds Try.pinned (OpenSpec.ofChange fnTooDeepFirstBracketWrong)

/-- 'zzlaws_internal_event_b1.FnTooDeepMonotoneInLimit': WHATEVER THE INPUT: true; the input reads as it did. -/
def fnTooDeepMonotoneInLimitSpec : ChangeSpec := { name := "fnTooDeepMonotoneInLimit", fn := fun _ => fun
  | [d1, d2, d3] => { results := [.lit (.bool true)], args := [d1, d2, d3] }
  | _ => none }
def fnTooDeepMonotoneInLimitRow : OpenClaim := { program := "qxb6000664a", sum := "c2a567659584fa12b0879f6bd8486f44f9f6c03c7d3f6c3a041c1b377edb5d7f", func := "example.com/lineage-gate/lineage-gate/zzlaws_internal_event_b1.FnTooDeepMonotoneInLimit", spec := "fnTooDeepMonotoneInLimit", apart := false }
def FnTooDeepMonotoneInLimitSaid : Prop := fnTooDeepMonotoneInLimitRow.holds Try.pinned (OpenSpec.ofChange fnTooDeepMonotoneInLimitSpec)

/-- ITS FALSE NEIGHBOUR: 'it returns false'. Refute it at one input. -/
def fnTooDeepMonotoneInLimitWrong : ChangeSpec := { name := "fnTooDeepMonotoneInLimit", fn := fun _ => fun
  | [d1, d2, d3] => { results := [.lit (.bool false)], args := [d1, d2, d3] }
  | _ => none }
def FnTooDeepMonotoneInLimitWrongFalsely : Prop := fnTooDeepMonotoneInLimitRow.holds Try.pinned (OpenSpec.ofChange fnTooDeepMonotoneInLimitWrong)

/-- 'zzlaws_internal_event_b1.FnTooDeepWrapShift': WHATEVER THE INPUT: true; the input reads as it did. -/
def fnTooDeepWrapShiftSpec : ChangeSpec := { name := "fnTooDeepWrapShift", fn := fun _ => fun
  | [d1, d2] => { results := [.lit (.bool true)], args := [d1, d2] }
  | _ => none }
def fnTooDeepWrapShiftRow : OpenClaim := { program := "qxb6000664a", sum := "c2a567659584fa12b0879f6bd8486f44f9f6c03c7d3f6c3a041c1b377edb5d7f", func := "example.com/lineage-gate/lineage-gate/zzlaws_internal_event_b1.FnTooDeepWrapShift", spec := "fnTooDeepWrapShift", apart := false }
def FnTooDeepWrapShiftSaid : Prop := fnTooDeepWrapShiftRow.holds Try.pinned (OpenSpec.ofChange fnTooDeepWrapShiftSpec)

/-- ITS FALSE NEIGHBOUR: 'it returns false'. Refute it at one input. -/
def fnTooDeepWrapShiftWrong : ChangeSpec := { name := "fnTooDeepWrapShift", fn := fun _ => fun
  | [d1, d2] => { results := [.lit (.bool false)], args := [d1, d2] }
  | _ => none }
def FnTooDeepWrapShiftWrongFalsely : Prop := fnTooDeepWrapShiftRow.holds Try.pinned (OpenSpec.ofChange fnTooDeepWrapShiftWrong)

/-- 'zzlaws_internal_event_b1.FnIsUUIDFormattedAcceptedEditsRefused': WHATEVER THE INPUT: true; the input reads as it did. -/
def fnIsUUIDFormattedAcceptedEditsRefusedSpec : ChangeSpec := { name := "fnIsUUIDFormattedAcceptedEditsRefused", fn := fun _ => fun
  | [d1, d2, d3, d4, d5, d6, d7] => { results := [.lit (.bool true)], args := [d1, d2, d3, d4, d5, d6, d7] }
  | _ => none }
def fnIsUUIDFormattedAcceptedEditsRefusedRow : OpenClaim := { program := "qxb6000664a", sum := "c2a567659584fa12b0879f6bd8486f44f9f6c03c7d3f6c3a041c1b377edb5d7f", func := "example.com/lineage-gate/lineage-gate/zzlaws_internal_event_b1.FnIsUUIDFormattedAcceptedEditsRefused", spec := "fnIsUUIDFormattedAcceptedEditsRefused", apart := false }
def FnIsUUIDFormattedAcceptedEditsRefusedSaid : Prop := fnIsUUIDFormattedAcceptedEditsRefusedRow.holds Try.pinned (OpenSpec.ofChange fnIsUUIDFormattedAcceptedEditsRefusedSpec)

/-- ITS FALSE NEIGHBOUR: 'it returns false'. Refute it at one input. -/
def fnIsUUIDFormattedAcceptedEditsRefusedWrong : ChangeSpec := { name := "fnIsUUIDFormattedAcceptedEditsRefused", fn := fun _ => fun
  | [d1, d2, d3, d4, d5, d6, d7] => { results := [.lit (.bool false)], args := [d1, d2, d3, d4, d5, d6, d7] }
  | _ => none }
def FnIsUUIDFormattedAcceptedEditsRefusedWrongFalsely : Prop := fnIsUUIDFormattedAcceptedEditsRefusedRow.holds Try.pinned (OpenSpec.ofChange fnIsUUIDFormattedAcceptedEditsRefusedWrong)

/-- 'zzlaws_internal_event_b1.FnIsUUIDAgreesWithGroupModel': WHATEVER THE INPUT: true; the input reads as it did. -/
def fnIsUUIDAgreesWithGroupModelSpec : ChangeSpec := { name := "fnIsUUIDAgreesWithGroupModel", fn := fun _ => fun
  | [d] => { results := [.lit (.bool true)], args := [d] }
  | _ => none }
def fnIsUUIDAgreesWithGroupModelRow : OpenClaim := { program := "qxb6000664a", sum := "c2a567659584fa12b0879f6bd8486f44f9f6c03c7d3f6c3a041c1b377edb5d7f", func := "example.com/lineage-gate/lineage-gate/zzlaws_internal_event_b1.FnIsUUIDAgreesWithGroupModel", spec := "fnIsUUIDAgreesWithGroupModel", apart := false }
def FnIsUUIDAgreesWithGroupModelSaid : Prop := fnIsUUIDAgreesWithGroupModelRow.holds Try.pinned (OpenSpec.ofChange fnIsUUIDAgreesWithGroupModelSpec)

/-- ITS FALSE NEIGHBOUR: 'it returns false'. Refute it at one input. -/
def fnIsUUIDAgreesWithGroupModelWrong : ChangeSpec := { name := "fnIsUUIDAgreesWithGroupModel", fn := fun _ => fun
  | [d] => { results := [.lit (.bool false)], args := [d] }
  | _ => none }
def FnIsUUIDAgreesWithGroupModelWrongFalsely : Prop := fnIsUUIDAgreesWithGroupModelRow.holds Try.pinned (OpenSpec.ofChange fnIsUUIDAgreesWithGroupModelWrong)

/-- 'zzlaws_internal_event_b1.FnIsUUIDRoundTripIgnoringCase': WHATEVER THE INPUT: true; the input reads as it did. -/
def fnIsUUIDRoundTripIgnoringCaseSpec : ChangeSpec := { name := "fnIsUUIDRoundTripIgnoringCase", fn := fun _ => fun
  | [d] => { results := [.lit (.bool true)], args := [d] }
  | _ => none }
def fnIsUUIDRoundTripIgnoringCaseRow : OpenClaim := { program := "qxb6000664a", sum := "c2a567659584fa12b0879f6bd8486f44f9f6c03c7d3f6c3a041c1b377edb5d7f", func := "example.com/lineage-gate/lineage-gate/zzlaws_internal_event_b1.FnIsUUIDRoundTripIgnoringCase", spec := "fnIsUUIDRoundTripIgnoringCase", apart := false }
def FnIsUUIDRoundTripIgnoringCaseSaid : Prop := fnIsUUIDRoundTripIgnoringCaseRow.holds Try.pinned (OpenSpec.ofChange fnIsUUIDRoundTripIgnoringCaseSpec)

/-- ITS FALSE NEIGHBOUR: 'it returns false'. Refute it at one input. -/
def fnIsUUIDRoundTripIgnoringCaseWrong : ChangeSpec := { name := "fnIsUUIDRoundTripIgnoringCase", fn := fun _ => fun
  | [d] => { results := [.lit (.bool false)], args := [d] }
  | _ => none }
def FnIsUUIDRoundTripIgnoringCaseWrongFalsely : Prop := fnIsUUIDRoundTripIgnoringCaseRow.holds Try.pinned (OpenSpec.ofChange fnIsUUIDRoundTripIgnoringCaseWrong)

end Rows
end Go.Proofs.Qxb6000664a
