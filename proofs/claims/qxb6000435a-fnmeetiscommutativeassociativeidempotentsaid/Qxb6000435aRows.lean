/-
  No cell of these rows narrows 'for every input' (looked for: loops, veiled, ifaces, maps, wideKeys, modest, calm, conditions, laid).
  DERIVED. THE GIVEN ROWS OF THIS SEAT. 7 by the template 'for every input the law returns true; each argument reads behind the call as it read before'; 0 by the template 'total and deterministic' (their statements: Qxb6000435aTotals.lean).
  GIVEN WITH THE SEED: the statements are not yours to turn. If you find one false, say at which input.
  Laid BY PROGRAM, IN A SANDBOX (cutbox-rows.mjs): the forced cells as the released guide's own fill.sh prints them over the translation f7be1b849af78247… (all of the seat's roots in one cut). By AI agents, Wed Nov 11 2026. No macro, syntax, notation, axiom, sorry.
-/
import Derived.Test.Qxb6000435aChecked
import GoSem.Claim
import GoSem.ClaimJoined
import GoSem.ClaimMapViews
import Derived.JoinedTies
import Derived.KernelRfl
namespace Go.Proofs.Qxb6000435a
/- THE CELL 'sum', in the pinned program and in every row, IS THE sha256 OF THE DUMP (.gsa) THAT Qxb6000435aProg.lean LOADS. Nothing in Lean hashes anything: it is a label: what it is worth is what the hold of that sum in a sandbox is worth. -/
noncomputable def Try.pinned : Pinned := { name := "qxb6000435a", sum := "f7be1b849af78247b16958636adee24c205ba2f4add32d5778230dff120193d5", checked := Try.checked }
namespace Rows
def none {H : Type} : Left H := { results := [], args := [] }

/-- 'zzlaws_internal_causal_b1.FnJoinIsPointwiseMax': WHATEVER THE INPUT: true; the input reads as it did. -/
def fnJoinIsPointwiseMaxSpec : ChangeSpec := { name := "fnJoinIsPointwiseMax", fn := fun _ => fun
  | [d1, d2, d3, d4] => { results := [.lit (.bool true)], args := [d1, d2, d3, d4] }
  | _ => none }
def fnJoinIsPointwiseMaxRow : OpenClaim := { program := "qxb6000435a", sum := "f7be1b849af78247b16958636adee24c205ba2f4add32d5778230dff120193d5", func := "example.com/causeway/causeway/zzlaws_internal_causal_b1.FnJoinIsPointwiseMax", spec := "fnJoinIsPointwiseMax", apart := false }
def FnJoinIsPointwiseMaxSaid : Prop := fnJoinIsPointwiseMaxRow.holds Try.pinned (OpenSpec.ofChange fnJoinIsPointwiseMaxSpec)

/-- ITS FALSE NEIGHBOUR: 'it returns false'. Refute it at one input. -/
def fnJoinIsPointwiseMaxWrong : ChangeSpec := { name := "fnJoinIsPointwiseMax", fn := fun _ => fun
  | [d1, d2, d3, d4] => { results := [.lit (.bool false)], args := [d1, d2, d3, d4] }
  | _ => none }
def FnJoinIsPointwiseMaxWrongFalsely : Prop := fnJoinIsPointwiseMaxRow.holds Try.pinned (OpenSpec.ofChange fnJoinIsPointwiseMaxWrong)

/-- 'zzlaws_internal_causal_b1.FnJoinIsCommutativeAssociativeIdempotent': WHATEVER THE INPUT: true; the input reads as it did. -/
def fnJoinIsCommutativeAssociativeIdempotentSpec : ChangeSpec := { name := "fnJoinIsCommutativeAssociativeIdempotent", fn := fun _ => fun
  | [d1, d2, d3, d4, d5, d6] => { results := [.lit (.bool true)], args := [d1, d2, d3, d4, d5, d6] }
  | _ => none }
def fnJoinIsCommutativeAssociativeIdempotentRow : OpenClaim := { program := "qxb6000435a", sum := "f7be1b849af78247b16958636adee24c205ba2f4add32d5778230dff120193d5", func := "example.com/causeway/causeway/zzlaws_internal_causal_b1.FnJoinIsCommutativeAssociativeIdempotent", spec := "fnJoinIsCommutativeAssociativeIdempotent", apart := false }
def FnJoinIsCommutativeAssociativeIdempotentSaid : Prop := fnJoinIsCommutativeAssociativeIdempotentRow.holds Try.pinned (OpenSpec.ofChange fnJoinIsCommutativeAssociativeIdempotentSpec)

/-- ITS FALSE NEIGHBOUR: 'it returns false'. Refute it at one input. -/
def fnJoinIsCommutativeAssociativeIdempotentWrong : ChangeSpec := { name := "fnJoinIsCommutativeAssociativeIdempotent", fn := fun _ => fun
  | [d1, d2, d3, d4, d5, d6] => { results := [.lit (.bool false)], args := [d1, d2, d3, d4, d5, d6] }
  | _ => none }
def FnJoinIsCommutativeAssociativeIdempotentWrongFalsely : Prop := fnJoinIsCommutativeAssociativeIdempotentRow.holds Try.pinned (OpenSpec.ofChange fnJoinIsCommutativeAssociativeIdempotentWrong)

/-- 'zzlaws_internal_causal_b1.FnMeetIsPointwisePositiveMin': WHATEVER THE INPUT: true; the input reads as it did. -/
def fnMeetIsPointwisePositiveMinSpec : ChangeSpec := { name := "fnMeetIsPointwisePositiveMin", fn := fun _ => fun
  | [d1, d2, d3, d4] => { results := [.lit (.bool true)], args := [d1, d2, d3, d4] }
  | _ => none }
def fnMeetIsPointwisePositiveMinRow : OpenClaim := { program := "qxb6000435a", sum := "f7be1b849af78247b16958636adee24c205ba2f4add32d5778230dff120193d5", func := "example.com/causeway/causeway/zzlaws_internal_causal_b1.FnMeetIsPointwisePositiveMin", spec := "fnMeetIsPointwisePositiveMin", apart := false }
def FnMeetIsPointwisePositiveMinSaid : Prop := fnMeetIsPointwisePositiveMinRow.holds Try.pinned (OpenSpec.ofChange fnMeetIsPointwisePositiveMinSpec)

/-- ITS FALSE NEIGHBOUR: 'it returns false'. Refute it at one input. -/
def fnMeetIsPointwisePositiveMinWrong : ChangeSpec := { name := "fnMeetIsPointwisePositiveMin", fn := fun _ => fun
  | [d1, d2, d3, d4] => { results := [.lit (.bool false)], args := [d1, d2, d3, d4] }
  | _ => none }
def FnMeetIsPointwisePositiveMinWrongFalsely : Prop := fnMeetIsPointwisePositiveMinRow.holds Try.pinned (OpenSpec.ofChange fnMeetIsPointwisePositiveMinWrong)

/-- 'zzlaws_internal_causal_b1.FnMeetIsCommutativeAssociativeIdempotent': WHATEVER THE INPUT: true; the input reads as it did. -/
def fnMeetIsCommutativeAssociativeIdempotentSpec : ChangeSpec := { name := "fnMeetIsCommutativeAssociativeIdempotent", fn := fun _ => fun
  | [d1, d2, d3, d4, d5, d6] => { results := [.lit (.bool true)], args := [d1, d2, d3, d4, d5, d6] }
  | _ => none }
def fnMeetIsCommutativeAssociativeIdempotentRow : OpenClaim := { program := "qxb6000435a", sum := "f7be1b849af78247b16958636adee24c205ba2f4add32d5778230dff120193d5", func := "example.com/causeway/causeway/zzlaws_internal_causal_b1.FnMeetIsCommutativeAssociativeIdempotent", spec := "fnMeetIsCommutativeAssociativeIdempotent", apart := false }
def FnMeetIsCommutativeAssociativeIdempotentSaid : Prop := fnMeetIsCommutativeAssociativeIdempotentRow.holds Try.pinned (OpenSpec.ofChange fnMeetIsCommutativeAssociativeIdempotentSpec)

/-- ITS FALSE NEIGHBOUR: 'it returns false'. Refute it at one input. -/
def fnMeetIsCommutativeAssociativeIdempotentWrong : ChangeSpec := { name := "fnMeetIsCommutativeAssociativeIdempotent", fn := fun _ => fun
  | [d1, d2, d3, d4, d5, d6] => { results := [.lit (.bool false)], args := [d1, d2, d3, d4, d5, d6] }
  | _ => none }
def FnMeetIsCommutativeAssociativeIdempotentWrongFalsely : Prop := fnMeetIsCommutativeAssociativeIdempotentRow.holds Try.pinned (OpenSpec.ofChange fnMeetIsCommutativeAssociativeIdempotentWrong)

/-- 'zzlaws_internal_causal_b1.FnJoinMeetAbsorb': WHATEVER THE INPUT: true; the input reads as it did. -/
def fnJoinMeetAbsorbSpec : ChangeSpec := { name := "fnJoinMeetAbsorb", fn := fun _ => fun
  | [d1, d2, d3, d4] => { results := [.lit (.bool true)], args := [d1, d2, d3, d4] }
  | _ => none }
def fnJoinMeetAbsorbRow : OpenClaim := { program := "qxb6000435a", sum := "f7be1b849af78247b16958636adee24c205ba2f4add32d5778230dff120193d5", func := "example.com/causeway/causeway/zzlaws_internal_causal_b1.FnJoinMeetAbsorb", spec := "fnJoinMeetAbsorb", apart := false }
def FnJoinMeetAbsorbSaid : Prop := fnJoinMeetAbsorbRow.holds Try.pinned (OpenSpec.ofChange fnJoinMeetAbsorbSpec)

/-- ITS FALSE NEIGHBOUR: 'it returns false'. Refute it at one input. -/
def fnJoinMeetAbsorbWrong : ChangeSpec := { name := "fnJoinMeetAbsorb", fn := fun _ => fun
  | [d1, d2, d3, d4] => { results := [.lit (.bool false)], args := [d1, d2, d3, d4] }
  | _ => none }
def FnJoinMeetAbsorbWrongFalsely : Prop := fnJoinMeetAbsorbRow.holds Try.pinned (OpenSpec.ofChange fnJoinMeetAbsorbWrong)

/-- 'zzlaws_internal_causal_b1.FnFollowsDistributesOverJoinAndMeet': WHATEVER THE INPUT: true; the input reads as it did. -/
def fnFollowsDistributesOverJoinAndMeetSpec : ChangeSpec := { name := "fnFollowsDistributesOverJoinAndMeet", fn := fun _ => fun
  | [d1, d2, d3, d4, d5] => { results := [.lit (.bool true)], args := [d1, d2, d3, d4, d5] }
  | _ => none }
def fnFollowsDistributesOverJoinAndMeetRow : OpenClaim := { program := "qxb6000435a", sum := "f7be1b849af78247b16958636adee24c205ba2f4add32d5778230dff120193d5", func := "example.com/causeway/causeway/zzlaws_internal_causal_b1.FnFollowsDistributesOverJoinAndMeet", spec := "fnFollowsDistributesOverJoinAndMeet", inPlace := ["internal/bytealg.IndexByteString", "internal/bytealg.IndexString"], named := ["internal/bytealg.MaxLen"], apart := false }
def FnFollowsDistributesOverJoinAndMeetSaid : Prop := fnFollowsDistributesOverJoinAndMeetRow.holds Try.pinned (OpenSpec.ofChange fnFollowsDistributesOverJoinAndMeetSpec)

/-- ITS FALSE NEIGHBOUR: 'it returns false'. Refute it at one input. -/
def fnFollowsDistributesOverJoinAndMeetWrong : ChangeSpec := { name := "fnFollowsDistributesOverJoinAndMeet", fn := fun _ => fun
  | [d1, d2, d3, d4, d5] => { results := [.lit (.bool false)], args := [d1, d2, d3, d4, d5] }
  | _ => none }
def FnFollowsDistributesOverJoinAndMeetWrongFalsely : Prop := fnFollowsDistributesOverJoinAndMeetRow.holds Try.pinned (OpenSpec.ofChange fnFollowsDistributesOverJoinAndMeetWrong)

/-- 'zzlaws_internal_causal_b1.FnFollowsIsIdempotentAndBelowDeps': WHATEVER THE INPUT: true; the input reads as it did. -/
def fnFollowsIsIdempotentAndBelowDepsSpec : ChangeSpec := { name := "fnFollowsIsIdempotentAndBelowDeps", fn := fun _ => fun
  | [d1, d2, d3] => { results := [.lit (.bool true)], args := [d1, d2, d3] }
  | _ => none }
def fnFollowsIsIdempotentAndBelowDepsRow : OpenClaim := { program := "qxb6000435a", sum := "f7be1b849af78247b16958636adee24c205ba2f4add32d5778230dff120193d5", func := "example.com/causeway/causeway/zzlaws_internal_causal_b1.FnFollowsIsIdempotentAndBelowDeps", spec := "fnFollowsIsIdempotentAndBelowDeps", inPlace := ["internal/bytealg.IndexByteString", "internal/bytealg.IndexString"], named := ["internal/bytealg.MaxLen"], apart := false }
def FnFollowsIsIdempotentAndBelowDepsSaid : Prop := fnFollowsIsIdempotentAndBelowDepsRow.holds Try.pinned (OpenSpec.ofChange fnFollowsIsIdempotentAndBelowDepsSpec)

/-- ITS FALSE NEIGHBOUR: 'it returns false'. Refute it at one input. -/
def fnFollowsIsIdempotentAndBelowDepsWrong : ChangeSpec := { name := "fnFollowsIsIdempotentAndBelowDeps", fn := fun _ => fun
  | [d1, d2, d3] => { results := [.lit (.bool false)], args := [d1, d2, d3] }
  | _ => none }
def FnFollowsIsIdempotentAndBelowDepsWrongFalsely : Prop := fnFollowsIsIdempotentAndBelowDepsRow.holds Try.pinned (OpenSpec.ofChange fnFollowsIsIdempotentAndBelowDepsWrong)

end Rows
end Go.Proofs.Qxb6000435a
