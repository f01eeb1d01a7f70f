/-
  No cell of these rows narrows 'for every input' (looked for: loops, veiled, ifaces, maps, wideKeys, modest, calm, conditions, laid).
  DERIVED. THE GIVEN ROWS OF THIS SEAT. 6 by the template 'for every input the law returns true; each argument reads behind the call as it read before'; 0 by the template 'total and deterministic' (their statements: Qxb6003611aTotals.lean).
  GIVEN WITH THE SEED: the statements are not yours to turn. If you find one false, say at which input.
  Laid BY PROGRAM, IN A SANDBOX (cutbox-rows.mjs): the forced cells as the released guide's own fill.sh prints them over the translation b5a8862b54ad530e… (all of the seat's roots in one cut). By AI agents, Wed Nov 11 2026. No macro, syntax, notation, axiom, sorry.
-/
import Derived.Test.Qxb6003611aChecked
import GoSem.Claim
import GoSem.ClaimJoined
import GoSem.ClaimMapViews
import Derived.JoinedTies
import Derived.KernelRfl
namespace Go.Proofs.Qxb6003611a
/- THE CELL 'sum', in the pinned program and in every row, IS THE sha256 OF THE DUMP (.gsa) THAT Qxb6003611aProg.lean LOADS. Nothing in Lean hashes anything: it is a label: what it is worth is what the hold of that sum in a sandbox is worth. -/
noncomputable def Try.pinned : Pinned := { name := "qxb6003611a", sum := "b5a8862b54ad530e46e1b7cc85f944ac75ef32c7dfdf90fec2f1aa0f9dccb641", checked := Try.checked }
namespace Rows
def none {H : Type} : Left H := { results := [], args := [] }

/-- 'zzlaws_internal_causal_b1.FnJoinIsPointwiseMaxEitherWay': WHATEVER THE INPUT: true; the input reads as it did. -/
def fnJoinIsPointwiseMaxEitherWaySpec : ChangeSpec := { name := "fnJoinIsPointwiseMaxEitherWay", fn := fun _ => fun
  | [d1, d2] => { results := [.lit (.bool true)], args := [d1, d2] }
  | _ => none }
def fnJoinIsPointwiseMaxEitherWayRow : OpenClaim := { program := "qxb6003611a", sum := "b5a8862b54ad530e46e1b7cc85f944ac75ef32c7dfdf90fec2f1aa0f9dccb641", func := "example.com/causeway/causeway/zzlaws_internal_causal_b1.FnJoinIsPointwiseMaxEitherWay", spec := "fnJoinIsPointwiseMaxEitherWay", apart := false }
def FnJoinIsPointwiseMaxEitherWaySaid : Prop := fnJoinIsPointwiseMaxEitherWayRow.holds Try.pinned (OpenSpec.ofChange fnJoinIsPointwiseMaxEitherWaySpec)

/-- ITS FALSE NEIGHBOUR: 'it returns false'. Refute it at one input. -/
def fnJoinIsPointwiseMaxEitherWayWrong : ChangeSpec := { name := "fnJoinIsPointwiseMaxEitherWay", fn := fun _ => fun
  | [d1, d2] => { results := [.lit (.bool false)], args := [d1, d2] }
  | _ => none }
def FnJoinIsPointwiseMaxEitherWayWrongFalsely : Prop := fnJoinIsPointwiseMaxEitherWayRow.holds Try.pinned (OpenSpec.ofChange fnJoinIsPointwiseMaxEitherWayWrong)

/-- 'zzlaws_internal_causal_b1.FnJoinAssociatesAndIsIdempotent': WHATEVER THE INPUT: true; the input reads as it did. -/
def fnJoinAssociatesAndIsIdempotentSpec : ChangeSpec := { name := "fnJoinAssociatesAndIsIdempotent", fn := fun _ => fun
  | [d1, d2, d3] => { results := [.lit (.bool true)], args := [d1, d2, d3] }
  | _ => none }
def fnJoinAssociatesAndIsIdempotentRow : OpenClaim := { program := "qxb6003611a", sum := "b5a8862b54ad530e46e1b7cc85f944ac75ef32c7dfdf90fec2f1aa0f9dccb641", func := "example.com/causeway/causeway/zzlaws_internal_causal_b1.FnJoinAssociatesAndIsIdempotent", spec := "fnJoinAssociatesAndIsIdempotent", apart := false }
def FnJoinAssociatesAndIsIdempotentSaid : Prop := fnJoinAssociatesAndIsIdempotentRow.holds Try.pinned (OpenSpec.ofChange fnJoinAssociatesAndIsIdempotentSpec)

/-- ITS FALSE NEIGHBOUR: 'it returns false'. Refute it at one input. -/
def fnJoinAssociatesAndIsIdempotentWrong : ChangeSpec := { name := "fnJoinAssociatesAndIsIdempotent", fn := fun _ => fun
  | [d1, d2, d3] => { results := [.lit (.bool false)], args := [d1, d2, d3] }
  | _ => none }
def FnJoinAssociatesAndIsIdempotentWrongFalsely : Prop := fnJoinAssociatesAndIsIdempotentRow.holds Try.pinned (OpenSpec.ofChange fnJoinAssociatesAndIsIdempotentWrong)

/-- 'zzlaws_internal_causal_b1.FnMeetIsPositivePointwiseMinEitherWay': WHATEVER THE INPUT: true; the input reads as it did. -/
def fnMeetIsPositivePointwiseMinEitherWaySpec : ChangeSpec := { name := "fnMeetIsPositivePointwiseMinEitherWay", fn := fun _ => fun
  | [d1, d2] => { results := [.lit (.bool true)], args := [d1, d2] }
  | _ => none }
def fnMeetIsPositivePointwiseMinEitherWayRow : OpenClaim := { program := "qxb6003611a", sum := "b5a8862b54ad530e46e1b7cc85f944ac75ef32c7dfdf90fec2f1aa0f9dccb641", func := "example.com/causeway/causeway/zzlaws_internal_causal_b1.FnMeetIsPositivePointwiseMinEitherWay", spec := "fnMeetIsPositivePointwiseMinEitherWay", apart := false }
def FnMeetIsPositivePointwiseMinEitherWaySaid : Prop := fnMeetIsPositivePointwiseMinEitherWayRow.holds Try.pinned (OpenSpec.ofChange fnMeetIsPositivePointwiseMinEitherWaySpec)

/-- ITS FALSE NEIGHBOUR: 'it returns false'. Refute it at one input. -/
def fnMeetIsPositivePointwiseMinEitherWayWrong : ChangeSpec := { name := "fnMeetIsPositivePointwiseMinEitherWay", fn := fun _ => fun
  | [d1, d2] => { results := [.lit (.bool false)], args := [d1, d2] }
  | _ => none }
def FnMeetIsPositivePointwiseMinEitherWayWrongFalsely : Prop := fnMeetIsPositivePointwiseMinEitherWayRow.holds Try.pinned (OpenSpec.ofChange fnMeetIsPositivePointwiseMinEitherWayWrong)

/-- 'zzlaws_internal_causal_b1.FnMeetAndJoinAbsorb': WHATEVER THE INPUT: true; the input reads as it did. -/
def fnMeetAndJoinAbsorbSpec : ChangeSpec := { name := "fnMeetAndJoinAbsorb", fn := fun _ => fun
  | [d1, d2] => { results := [.lit (.bool true)], args := [d1, d2] }
  | _ => none }
def fnMeetAndJoinAbsorbRow : OpenClaim := { program := "qxb6003611a", sum := "b5a8862b54ad530e46e1b7cc85f944ac75ef32c7dfdf90fec2f1aa0f9dccb641", func := "example.com/causeway/causeway/zzlaws_internal_causal_b1.FnMeetAndJoinAbsorb", spec := "fnMeetAndJoinAbsorb", apart := false }
def FnMeetAndJoinAbsorbSaid : Prop := fnMeetAndJoinAbsorbRow.holds Try.pinned (OpenSpec.ofChange fnMeetAndJoinAbsorbSpec)

/-- ITS FALSE NEIGHBOUR: 'it returns false'. Refute it at one input. -/
def fnMeetAndJoinAbsorbWrong : ChangeSpec := { name := "fnMeetAndJoinAbsorb", fn := fun _ => fun
  | [d1, d2] => { results := [.lit (.bool false)], args := [d1, d2] }
  | _ => none }
def FnMeetAndJoinAbsorbWrongFalsely : Prop := fnMeetAndJoinAbsorbRow.holds Try.pinned (OpenSpec.ofChange fnMeetAndJoinAbsorbWrong)

/-- 'zzlaws_internal_causal_b1.FnFollowsDistributesOverJoin': WHATEVER THE INPUT: true; the input reads as it did. -/
def fnFollowsDistributesOverJoinSpec : ChangeSpec := { name := "fnFollowsDistributesOverJoin", fn := fun _ => fun
  | [d1, d2, d3] => { results := [.lit (.bool true)], args := [d1, d2, d3] }
  | _ => none }
def fnFollowsDistributesOverJoinRow : OpenClaim := { program := "qxb6003611a", sum := "b5a8862b54ad530e46e1b7cc85f944ac75ef32c7dfdf90fec2f1aa0f9dccb641", func := "example.com/causeway/causeway/zzlaws_internal_causal_b1.FnFollowsDistributesOverJoin", spec := "fnFollowsDistributesOverJoin", inPlace := ["internal/bytealg.IndexByteString", "internal/bytealg.IndexString"], named := ["internal/bytealg.MaxLen"], apart := false }
def FnFollowsDistributesOverJoinSaid : Prop := fnFollowsDistributesOverJoinRow.holds Try.pinned (OpenSpec.ofChange fnFollowsDistributesOverJoinSpec)

/-- ITS FALSE NEIGHBOUR: 'it returns false'. Refute it at one input. -/
def fnFollowsDistributesOverJoinWrong : ChangeSpec := { name := "fnFollowsDistributesOverJoin", fn := fun _ => fun
  | [d1, d2, d3] => { results := [.lit (.bool false)], args := [d1, d2, d3] }
  | _ => none }
def FnFollowsDistributesOverJoinWrongFalsely : Prop := fnFollowsDistributesOverJoinRow.holds Try.pinned (OpenSpec.ofChange fnFollowsDistributesOverJoinWrong)

/-- 'zzlaws_internal_causal_b1.FnFollowsMeetsAndSettles': WHATEVER THE INPUT: true; the input reads as it did. -/
def fnFollowsMeetsAndSettlesSpec : ChangeSpec := { name := "fnFollowsMeetsAndSettles", fn := fun _ => fun
  | [d1, d2, d3] => { results := [.lit (.bool true)], args := [d1, d2, d3] }
  | _ => none }
def fnFollowsMeetsAndSettlesRow : OpenClaim := { program := "qxb6003611a", sum := "b5a8862b54ad530e46e1b7cc85f944ac75ef32c7dfdf90fec2f1aa0f9dccb641", func := "example.com/causeway/causeway/zzlaws_internal_causal_b1.FnFollowsMeetsAndSettles", spec := "fnFollowsMeetsAndSettles", inPlace := ["internal/bytealg.IndexByteString", "internal/bytealg.IndexString"], named := ["internal/bytealg.MaxLen"], apart := false }
def FnFollowsMeetsAndSettlesSaid : Prop := fnFollowsMeetsAndSettlesRow.holds Try.pinned (OpenSpec.ofChange fnFollowsMeetsAndSettlesSpec)

/-- ITS FALSE NEIGHBOUR: 'it returns false'. Refute it at one input. -/
def fnFollowsMeetsAndSettlesWrong : ChangeSpec := { name := "fnFollowsMeetsAndSettles", fn := fun _ => fun
  | [d1, d2, d3] => { results := [.lit (.bool false)], args := [d1, d2, d3] }
  | _ => none }
def FnFollowsMeetsAndSettlesWrongFalsely : Prop := fnFollowsMeetsAndSettlesRow.holds Try.pinned (OpenSpec.ofChange fnFollowsMeetsAndSettlesWrong)

end Rows
end Go.Proofs.Qxb6003611a
