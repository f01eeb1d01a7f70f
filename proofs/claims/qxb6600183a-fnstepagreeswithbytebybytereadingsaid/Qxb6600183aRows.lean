/-
  No cell of these rows narrows 'for every input' (looked for: loops, veiled, ifaces, maps, wideKeys, modest, calm, conditions, laid).
  DERIVED. THE GIVEN ROWS OF THIS SEAT. 6 by the template 'for every input the law returns true; each argument reads behind the call as it read before'; 0 by the template 'total and deterministic' (their statements: Qxb6600183aTotals.lean).
  GIVEN WITH THE SEED: the statements are not yours to turn. If you find one false, say at which input.
  Laid BY PROGRAM, IN A SANDBOX (cutbox-rows.mjs): the forced cells as the released guide's own fill.sh prints them over the translation 2b6d382ff8983904… (all of the seat's roots in one cut). By AI agents, Wed Nov 11 2026. No macro, syntax, notation, axiom, sorry.
-/
import Derived.Test.Qxb6600183aChecked
import GoSem.Claim
import GoSem.ClaimJoined
import GoSem.ClaimMapViews
import Derived.JoinedTies
import Derived.KernelRfl
namespace Go.Proofs.Qxb6600183a
/- THE CELL 'sum', in the pinned program and in every row, IS THE sha256 OF THE DUMP (.gsa) THAT Qxb6600183aProg.lean LOADS. Nothing in Lean hashes anything: it is a label: what it is worth is what the hold of that sum in a sandbox is worth. -/
noncomputable def Try.pinned : Pinned := { name := "qxb6600183a", sum := "2b6d382ff898390437dddc6f62be638c3c2a36f87a9d4f7297c12f345ba23515", checked := Try.checked }
namespace Rows
def none {H : Type} : Left H := { results := [], args := [] }

/-- 'zzlaws_internal_syntax_b1.FnWordReadsMaximalRunWithLowerValue': WHATEVER THE INPUT: true; the input reads as it did. -/
def fnWordReadsMaximalRunWithLowerValueSpec : ChangeSpec := { name := "fnWordReadsMaximalRunWithLowerValue", fn := fun _ => fun
  | [d] => { results := [.lit (.bool true)], args := [d] }
  | _ => none }
def fnWordReadsMaximalRunWithLowerValueRow : OpenClaim := { program := "qxb6600183a", sum := "2b6d382ff898390437dddc6f62be638c3c2a36f87a9d4f7297c12f345ba23515", func := "example.com/hindsight/hindsight/zzlaws_internal_syntax_b1.FnWordReadsMaximalRunWithLowerValue", spec := "fnWordReadsMaximalRunWithLowerValue", inPlace := ["internal/abi.NoEscape", "internal/bytealg.MakeNoZero"], apart := false }
def FnWordReadsMaximalRunWithLowerValueSaid : Prop := fnWordReadsMaximalRunWithLowerValueRow.holds Try.pinned (OpenSpec.ofChange fnWordReadsMaximalRunWithLowerValueSpec)

/-- ITS FALSE NEIGHBOUR: 'it returns false'. Refute it at one input. -/
def fnWordReadsMaximalRunWithLowerValueWrong : ChangeSpec := { name := "fnWordReadsMaximalRunWithLowerValue", fn := fun _ => fun
  | [d] => { results := [.lit (.bool false)], args := [d] }
  | _ => none }
def FnWordReadsMaximalRunWithLowerValueWrongFalsely : Prop := fnWordReadsMaximalRunWithLowerValueRow.holds Try.pinned (OpenSpec.ofChange fnWordReadsMaximalRunWithLowerValueWrong)

/-- 'zzlaws_internal_syntax_b1.FnWordIsCaseBlindAndFixedOnItsValue': WHATEVER THE INPUT: true; the input reads as it did. -/
def fnWordIsCaseBlindAndFixedOnItsValueSpec : ChangeSpec := { name := "fnWordIsCaseBlindAndFixedOnItsValue", fn := fun _ => fun
  | [d] => { results := [.lit (.bool true)], args := [d] }
  | _ => none }
def fnWordIsCaseBlindAndFixedOnItsValueRow : OpenClaim := { program := "qxb6600183a", sum := "2b6d382ff898390437dddc6f62be638c3c2a36f87a9d4f7297c12f345ba23515", func := "example.com/hindsight/hindsight/zzlaws_internal_syntax_b1.FnWordIsCaseBlindAndFixedOnItsValue", spec := "fnWordIsCaseBlindAndFixedOnItsValue", inPlace := ["internal/abi.NoEscape", "internal/bytealg.MakeNoZero"], apart := false }
def FnWordIsCaseBlindAndFixedOnItsValueSaid : Prop := fnWordIsCaseBlindAndFixedOnItsValueRow.holds Try.pinned (OpenSpec.ofChange fnWordIsCaseBlindAndFixedOnItsValueSpec)

/-- ITS FALSE NEIGHBOUR: 'it returns false'. Refute it at one input. -/
def fnWordIsCaseBlindAndFixedOnItsValueWrong : ChangeSpec := { name := "fnWordIsCaseBlindAndFixedOnItsValue", fn := fun _ => fun
  | [d] => { results := [.lit (.bool false)], args := [d] }
  | _ => none }
def FnWordIsCaseBlindAndFixedOnItsValueWrongFalsely : Prop := fnWordIsCaseBlindAndFixedOnItsValueRow.holds Try.pinned (OpenSpec.ofChange fnWordIsCaseBlindAndFixedOnItsValueWrong)

/-- 'zzlaws_internal_syntax_b1.FnLoweredAppendsItsLowerCopy': WHATEVER THE INPUT: true; the input reads as it did. -/
def fnLoweredAppendsItsLowerCopySpec : ChangeSpec := { name := "fnLoweredAppendsItsLowerCopy", fn := fun _ => fun
  | [d1, d2] => { results := [.lit (.bool true)], args := [d1, d2] }
  | _ => none }
def fnLoweredAppendsItsLowerCopyRow : OpenClaim := { program := "qxb6600183a", sum := "2b6d382ff898390437dddc6f62be638c3c2a36f87a9d4f7297c12f345ba23515", func := "example.com/hindsight/hindsight/zzlaws_internal_syntax_b1.FnLoweredAppendsItsLowerCopy", spec := "fnLoweredAppendsItsLowerCopy", inPlace := ["internal/abi.NoEscape", "internal/bytealg.MakeNoZero"], apart := false }
def FnLoweredAppendsItsLowerCopySaid : Prop := fnLoweredAppendsItsLowerCopyRow.holds Try.pinned (OpenSpec.ofChange fnLoweredAppendsItsLowerCopySpec)

/-- ITS FALSE NEIGHBOUR: 'it returns false'. Refute it at one input. -/
def fnLoweredAppendsItsLowerCopyWrong : ChangeSpec := { name := "fnLoweredAppendsItsLowerCopy", fn := fun _ => fun
  | [d1, d2] => { results := [.lit (.bool false)], args := [d1, d2] }
  | _ => none }
def FnLoweredAppendsItsLowerCopyWrongFalsely : Prop := fnLoweredAppendsItsLowerCopyRow.holds Try.pinned (OpenSpec.ofChange fnLoweredAppendsItsLowerCopyWrong)

/-- 'zzlaws_internal_syntax_b1.FnLoweredIsCaseBlindAndIdempotent': WHATEVER THE INPUT: true; the input reads as it did. -/
def fnLoweredIsCaseBlindAndIdempotentSpec : ChangeSpec := { name := "fnLoweredIsCaseBlindAndIdempotent", fn := fun _ => fun
  | [d] => { results := [.lit (.bool true)], args := [d] }
  | _ => none }
def fnLoweredIsCaseBlindAndIdempotentRow : OpenClaim := { program := "qxb6600183a", sum := "2b6d382ff898390437dddc6f62be638c3c2a36f87a9d4f7297c12f345ba23515", func := "example.com/hindsight/hindsight/zzlaws_internal_syntax_b1.FnLoweredIsCaseBlindAndIdempotent", spec := "fnLoweredIsCaseBlindAndIdempotent", inPlace := ["internal/abi.NoEscape", "internal/bytealg.MakeNoZero"], apart := false }
def FnLoweredIsCaseBlindAndIdempotentSaid : Prop := fnLoweredIsCaseBlindAndIdempotentRow.holds Try.pinned (OpenSpec.ofChange fnLoweredIsCaseBlindAndIdempotentSpec)

/-- ITS FALSE NEIGHBOUR: 'it returns false'. Refute it at one input. -/
def fnLoweredIsCaseBlindAndIdempotentWrong : ChangeSpec := { name := "fnLoweredIsCaseBlindAndIdempotent", fn := fun _ => fun
  | [d] => { results := [.lit (.bool false)], args := [d] }
  | _ => none }
def FnLoweredIsCaseBlindAndIdempotentWrongFalsely : Prop := fnLoweredIsCaseBlindAndIdempotentRow.holds Try.pinned (OpenSpec.ofChange fnLoweredIsCaseBlindAndIdempotentWrong)

/-- 'zzlaws_internal_syntax_b1.FnStepAgreesWithByteByByteReading': WHATEVER THE INPUT: true; the input reads as it did. -/
def fnStepAgreesWithByteByByteReadingSpec : ChangeSpec := { name := "fnStepAgreesWithByteByByteReading", fn := fun _ => fun
  | [d1, d2, d3, d4, d5] => { results := [.lit (.bool true)], args := [d1, d2, d3, d4, d5] }
  | _ => none }
def fnStepAgreesWithByteByByteReadingRow : OpenClaim := { program := "qxb6600183a", sum := "2b6d382ff898390437dddc6f62be638c3c2a36f87a9d4f7297c12f345ba23515", func := "example.com/hindsight/hindsight/zzlaws_internal_syntax_b1.FnStepAgreesWithByteByByteReading", spec := "fnStepAgreesWithByteByByteReading", inPlace := ["internal/bytealg.IndexByteString", "internal/bytealg.IndexString"], named := ["internal/bytealg.MaxLen"], apart := false }
def FnStepAgreesWithByteByByteReadingSaid : Prop := fnStepAgreesWithByteByByteReadingRow.holds Try.pinned (OpenSpec.ofChange fnStepAgreesWithByteByByteReadingSpec)

/-- ITS FALSE NEIGHBOUR: 'it returns false'. Refute it at one input. -/
def fnStepAgreesWithByteByByteReadingWrong : ChangeSpec := { name := "fnStepAgreesWithByteByByteReading", fn := fun _ => fun
  | [d1, d2, d3, d4, d5] => { results := [.lit (.bool false)], args := [d1, d2, d3, d4, d5] }
  | _ => none }
def FnStepAgreesWithByteByByteReadingWrongFalsely : Prop := fnStepAgreesWithByteByByteReadingRow.holds Try.pinned (OpenSpec.ofChange fnStepAgreesWithByteByByteReadingWrong)

/-- 'zzlaws_internal_syntax_b1.FnStepMovesForwardAndKeepsOneModeAtATime': WHATEVER THE INPUT: true; the input reads as it did. -/
def fnStepMovesForwardAndKeepsOneModeAtATimeSpec : ChangeSpec := { name := "fnStepMovesForwardAndKeepsOneModeAtATime", fn := fun _ => fun
  | [d1, d2, d3, d4, d5] => { results := [.lit (.bool true)], args := [d1, d2, d3, d4, d5] }
  | _ => none }
def fnStepMovesForwardAndKeepsOneModeAtATimeRow : OpenClaim := { program := "qxb6600183a", sum := "2b6d382ff898390437dddc6f62be638c3c2a36f87a9d4f7297c12f345ba23515", func := "example.com/hindsight/hindsight/zzlaws_internal_syntax_b1.FnStepMovesForwardAndKeepsOneModeAtATime", spec := "fnStepMovesForwardAndKeepsOneModeAtATime", inPlace := ["internal/bytealg.IndexByteString", "internal/bytealg.IndexString"], named := ["internal/bytealg.MaxLen"], apart := false }
def FnStepMovesForwardAndKeepsOneModeAtATimeSaid : Prop := fnStepMovesForwardAndKeepsOneModeAtATimeRow.holds Try.pinned (OpenSpec.ofChange fnStepMovesForwardAndKeepsOneModeAtATimeSpec)

/-- ITS FALSE NEIGHBOUR: 'it returns false'. Refute it at one input. -/
def fnStepMovesForwardAndKeepsOneModeAtATimeWrong : ChangeSpec := { name := "fnStepMovesForwardAndKeepsOneModeAtATime", fn := fun _ => fun
  | [d1, d2, d3, d4, d5] => { results := [.lit (.bool false)], args := [d1, d2, d3, d4, d5] }
  | _ => none }
def FnStepMovesForwardAndKeepsOneModeAtATimeWrongFalsely : Prop := fnStepMovesForwardAndKeepsOneModeAtATimeRow.holds Try.pinned (OpenSpec.ofChange fnStepMovesForwardAndKeepsOneModeAtATimeWrong)

end Rows
end Go.Proofs.Qxb6600183a
