/-
  No cell of these rows narrows 'for every input' (looked for: loops, veiled, ifaces, maps, wideKeys, modest, calm, conditions, laid).
  DERIVED. THE GIVEN ROWS OF THIS SEAT. 9 by the template 'for every input the law returns true; each argument reads behind the call as it read before'; 0 by the template 'total and deterministic' (their statements: Qxb6600069aTotals.lean).
  GIVEN WITH THE SEED: the statements are not yours to turn. If you find one false, say at which input.
  Laid BY PROGRAM, IN A SANDBOX (cutbox-rows.mjs): the forced cells as the released guide's own fill.sh prints them over the translation 1b5c707dfa2f283f… (all of the seat's roots in one cut). By AI agents, Wed Nov 11 2026. No macro, syntax, notation, axiom, sorry.
-/
import Derived.Test.Qxb6600069aChecked
import GoSem.Claim
import GoSem.ClaimJoined
import GoSem.ClaimMapViews
import Derived.JoinedTies
import Derived.KernelRfl
namespace Go.Proofs.Qxb6600069a
/- THE CELL 'sum', in the pinned program and in every row, IS THE sha256 OF THE DUMP (.gsa) THAT Qxb6600069aProg.lean LOADS. Nothing in Lean hashes anything: it is a label: what it is worth is what the hold of that sum in a sandbox is worth. -/
noncomputable def Try.pinned : Pinned := { name := "qxb6600069a", sum := "1b5c707dfa2f283f82b8c9781d2bcff49a6229a1d24263dc4ac7b869c0d9ac71", checked := Try.checked }
namespace Rows
def none {H : Type} : Left H := { results := [], args := [] }

/-- 'zzlaws_pkg_jsondoc_b1.FnValueEndFindsTheEndOfEveryWrittenValue': WHATEVER THE INPUT: true; the input reads as it did. -/
def fnValueEndFindsTheEndOfEveryWrittenValueSpec : ChangeSpec := { name := "fnValueEndFindsTheEndOfEveryWrittenValue", fn := fun _ => fun
  | [d1, d2, d3] => { results := [.lit (.bool true)], args := [d1, d2, d3] }
  | _ => none }
def fnValueEndFindsTheEndOfEveryWrittenValueRow : OpenClaim := { program := "qxb6600069a", sum := "1b5c707dfa2f283f82b8c9781d2bcff49a6229a1d24263dc4ac7b869c0d9ac71", func := "example.com/vestwright/vestwright/zzlaws_pkg_jsondoc_b1.FnValueEndFindsTheEndOfEveryWrittenValue", spec := "fnValueEndFindsTheEndOfEveryWrittenValue", inPlace := ["internal/bytealg.IndexByteString"], apart := false }
def FnValueEndFindsTheEndOfEveryWrittenValueSaid : Prop := fnValueEndFindsTheEndOfEveryWrittenValueRow.holds Try.pinned (OpenSpec.ofChange fnValueEndFindsTheEndOfEveryWrittenValueSpec)

/-- ITS FALSE NEIGHBOUR: 'it returns false'. Refute it at one input. -/
def fnValueEndFindsTheEndOfEveryWrittenValueWrong : ChangeSpec := { name := "fnValueEndFindsTheEndOfEveryWrittenValue", fn := fun _ => fun
  | [d1, d2, d3] => { results := [.lit (.bool false)], args := [d1, d2, d3] }
  | _ => none }
def FnValueEndFindsTheEndOfEveryWrittenValueWrongFalsely : Prop := fnValueEndFindsTheEndOfEveryWrittenValueRow.holds Try.pinned (OpenSpec.ofChange fnValueEndFindsTheEndOfEveryWrittenValueWrong)

/-- 'zzlaws_pkg_jsondoc_b1.FnSkipSpaceAndValueEndWalkAListOfValues': WHATEVER THE INPUT: true; the input reads as it did. -/
def fnSkipSpaceAndValueEndWalkAListOfValuesSpec : ChangeSpec := { name := "fnSkipSpaceAndValueEndWalkAListOfValues", fn := fun _ => fun
  | [d] => { results := [.lit (.bool true)], args := [d] }
  | _ => none }
def fnSkipSpaceAndValueEndWalkAListOfValuesRow : OpenClaim := { program := "qxb6600069a", sum := "1b5c707dfa2f283f82b8c9781d2bcff49a6229a1d24263dc4ac7b869c0d9ac71", func := "example.com/vestwright/vestwright/zzlaws_pkg_jsondoc_b1.FnSkipSpaceAndValueEndWalkAListOfValues", spec := "fnSkipSpaceAndValueEndWalkAListOfValues", inPlace := ["internal/bytealg.IndexByteString"], apart := false }
def FnSkipSpaceAndValueEndWalkAListOfValuesSaid : Prop := fnSkipSpaceAndValueEndWalkAListOfValuesRow.holds Try.pinned (OpenSpec.ofChange fnSkipSpaceAndValueEndWalkAListOfValuesSpec)

/-- ITS FALSE NEIGHBOUR: 'it returns false'. Refute it at one input. -/
def fnSkipSpaceAndValueEndWalkAListOfValuesWrong : ChangeSpec := { name := "fnSkipSpaceAndValueEndWalkAListOfValues", fn := fun _ => fun
  | [d] => { results := [.lit (.bool false)], args := [d] }
  | _ => none }
def FnSkipSpaceAndValueEndWalkAListOfValuesWrongFalsely : Prop := fnSkipSpaceAndValueEndWalkAListOfValuesRow.holds Try.pinned (OpenSpec.ofChange fnSkipSpaceAndValueEndWalkAListOfValuesWrong)

/-- 'zzlaws_pkg_jsondoc_b1.FnValueEndStaysInBoundsAndStandsStillOnlyOnADelimiter': WHATEVER THE INPUT: true; the input reads as it did. -/
def fnValueEndStaysInBoundsAndStandsStillOnlyOnADelimiterSpec : ChangeSpec := { name := "fnValueEndStaysInBoundsAndStandsStillOnlyOnADelimiter", fn := fun _ => fun
  | [d1, d2] => { results := [.lit (.bool true)], args := [d1, d2] }
  | _ => none }
def fnValueEndStaysInBoundsAndStandsStillOnlyOnADelimiterRow : OpenClaim := { program := "qxb6600069a", sum := "1b5c707dfa2f283f82b8c9781d2bcff49a6229a1d24263dc4ac7b869c0d9ac71", func := "example.com/vestwright/vestwright/zzlaws_pkg_jsondoc_b1.FnValueEndStaysInBoundsAndStandsStillOnlyOnADelimiter", spec := "fnValueEndStaysInBoundsAndStandsStillOnlyOnADelimiter", inPlace := ["internal/bytealg.IndexByteString"], apart := false }
def FnValueEndStaysInBoundsAndStandsStillOnlyOnADelimiterSaid : Prop := fnValueEndStaysInBoundsAndStandsStillOnlyOnADelimiterRow.holds Try.pinned (OpenSpec.ofChange fnValueEndStaysInBoundsAndStandsStillOnlyOnADelimiterSpec)

/-- ITS FALSE NEIGHBOUR: 'it returns false'. Refute it at one input. -/
def fnValueEndStaysInBoundsAndStandsStillOnlyOnADelimiterWrong : ChangeSpec := { name := "fnValueEndStaysInBoundsAndStandsStillOnlyOnADelimiter", fn := fun _ => fun
  | [d1, d2] => { results := [.lit (.bool false)], args := [d1, d2] }
  | _ => none }
def FnValueEndStaysInBoundsAndStandsStillOnlyOnADelimiterWrongFalsely : Prop := fnValueEndStaysInBoundsAndStandsStillOnlyOnADelimiterRow.holds Try.pinned (OpenSpec.ofChange fnValueEndStaysInBoundsAndStandsStillOnlyOnADelimiterWrong)

/-- 'zzlaws_pkg_jsondoc_b1.FnValueEndIsUnchangedByCuttingAtItsEnd': WHATEVER THE INPUT: true; the input reads as it did. -/
def fnValueEndIsUnchangedByCuttingAtItsEndSpec : ChangeSpec := { name := "fnValueEndIsUnchangedByCuttingAtItsEnd", fn := fun _ => fun
  | [d1, d2] => { results := [.lit (.bool true)], args := [d1, d2] }
  | _ => none }
def fnValueEndIsUnchangedByCuttingAtItsEndRow : OpenClaim := { program := "qxb6600069a", sum := "1b5c707dfa2f283f82b8c9781d2bcff49a6229a1d24263dc4ac7b869c0d9ac71", func := "example.com/vestwright/vestwright/zzlaws_pkg_jsondoc_b1.FnValueEndIsUnchangedByCuttingAtItsEnd", spec := "fnValueEndIsUnchangedByCuttingAtItsEnd", inPlace := ["internal/bytealg.IndexByteString"], apart := false }
def FnValueEndIsUnchangedByCuttingAtItsEndSaid : Prop := fnValueEndIsUnchangedByCuttingAtItsEndRow.holds Try.pinned (OpenSpec.ofChange fnValueEndIsUnchangedByCuttingAtItsEndSpec)

/-- ITS FALSE NEIGHBOUR: 'it returns false'. Refute it at one input. -/
def fnValueEndIsUnchangedByCuttingAtItsEndWrong : ChangeSpec := { name := "fnValueEndIsUnchangedByCuttingAtItsEnd", fn := fun _ => fun
  | [d1, d2] => { results := [.lit (.bool false)], args := [d1, d2] }
  | _ => none }
def FnValueEndIsUnchangedByCuttingAtItsEndWrongFalsely : Prop := fnValueEndIsUnchangedByCuttingAtItsEndRow.holds Try.pinned (OpenSpec.ofChange fnValueEndIsUnchangedByCuttingAtItsEndWrong)

/-- 'zzlaws_pkg_jsondoc_b1.FnStringEndSkipsAnEscapedText': WHATEVER THE INPUT: true; the input reads as it did. -/
def fnStringEndSkipsAnEscapedTextSpec : ChangeSpec := { name := "fnStringEndSkipsAnEscapedText", fn := fun _ => fun
  | [d1, d2, d3, d4] => { results := [.lit (.bool true)], args := [d1, d2, d3, d4] }
  | _ => none }
def fnStringEndSkipsAnEscapedTextRow : OpenClaim := { program := "qxb6600069a", sum := "1b5c707dfa2f283f82b8c9781d2bcff49a6229a1d24263dc4ac7b869c0d9ac71", func := "example.com/vestwright/vestwright/zzlaws_pkg_jsondoc_b1.FnStringEndSkipsAnEscapedText", spec := "fnStringEndSkipsAnEscapedText", apart := false }
def FnStringEndSkipsAnEscapedTextSaid : Prop := fnStringEndSkipsAnEscapedTextRow.holds Try.pinned (OpenSpec.ofChange fnStringEndSkipsAnEscapedTextSpec)

/-- ITS FALSE NEIGHBOUR: 'it returns false'. Refute it at one input. -/
def fnStringEndSkipsAnEscapedTextWrong : ChangeSpec := { name := "fnStringEndSkipsAnEscapedText", fn := fun _ => fun
  | [d1, d2, d3, d4] => { results := [.lit (.bool false)], args := [d1, d2, d3, d4] }
  | _ => none }
def FnStringEndSkipsAnEscapedTextWrongFalsely : Prop := fnStringEndSkipsAnEscapedTextRow.holds Try.pinned (OpenSpec.ofChange fnStringEndSkipsAnEscapedTextWrong)

/-- 'zzlaws_pkg_jsondoc_b1.FnStringEndMatchesABackslashParityModel': WHATEVER THE INPUT: true; the input reads as it did. -/
def fnStringEndMatchesABackslashParityModelSpec : ChangeSpec := { name := "fnStringEndMatchesABackslashParityModel", fn := fun _ => fun
  | [d1, d2] => { results := [.lit (.bool true)], args := [d1, d2] }
  | _ => none }
def fnStringEndMatchesABackslashParityModelRow : OpenClaim := { program := "qxb6600069a", sum := "1b5c707dfa2f283f82b8c9781d2bcff49a6229a1d24263dc4ac7b869c0d9ac71", func := "example.com/vestwright/vestwright/zzlaws_pkg_jsondoc_b1.FnStringEndMatchesABackslashParityModel", spec := "fnStringEndMatchesABackslashParityModel", apart := false }
def FnStringEndMatchesABackslashParityModelSaid : Prop := fnStringEndMatchesABackslashParityModelRow.holds Try.pinned (OpenSpec.ofChange fnStringEndMatchesABackslashParityModelSpec)

/-- ITS FALSE NEIGHBOUR: 'it returns false'. Refute it at one input. -/
def fnStringEndMatchesABackslashParityModelWrong : ChangeSpec := { name := "fnStringEndMatchesABackslashParityModel", fn := fun _ => fun
  | [d1, d2] => { results := [.lit (.bool false)], args := [d1, d2] }
  | _ => none }
def FnStringEndMatchesABackslashParityModelWrongFalsely : Prop := fnStringEndMatchesABackslashParityModelRow.holds Try.pinned (OpenSpec.ofChange fnStringEndMatchesABackslashParityModelWrong)

/-- 'zzlaws_pkg_jsondoc_b1.FnStringEndIsLocalToItsString': WHATEVER THE INPUT: true; the input reads as it did. -/
def fnStringEndIsLocalToItsStringSpec : ChangeSpec := { name := "fnStringEndIsLocalToItsString", fn := fun _ => fun
  | [d1, d2, d3] => { results := [.lit (.bool true)], args := [d1, d2, d3] }
  | _ => none }
def fnStringEndIsLocalToItsStringRow : OpenClaim := { program := "qxb6600069a", sum := "1b5c707dfa2f283f82b8c9781d2bcff49a6229a1d24263dc4ac7b869c0d9ac71", func := "example.com/vestwright/vestwright/zzlaws_pkg_jsondoc_b1.FnStringEndIsLocalToItsString", spec := "fnStringEndIsLocalToItsString", apart := false }
def FnStringEndIsLocalToItsStringSaid : Prop := fnStringEndIsLocalToItsStringRow.holds Try.pinned (OpenSpec.ofChange fnStringEndIsLocalToItsStringSpec)

/-- ITS FALSE NEIGHBOUR: 'it returns false'. Refute it at one input. -/
def fnStringEndIsLocalToItsStringWrong : ChangeSpec := { name := "fnStringEndIsLocalToItsString", fn := fun _ => fun
  | [d1, d2, d3] => { results := [.lit (.bool false)], args := [d1, d2, d3] }
  | _ => none }
def FnStringEndIsLocalToItsStringWrongFalsely : Prop := fnStringEndIsLocalToItsStringRow.holds Try.pinned (OpenSpec.ofChange fnStringEndIsLocalToItsStringWrong)

/-- 'zzlaws_pkg_jsondoc_b1.FnSkipSpaceStopsAtTheFirstNonSpace': WHATEVER THE INPUT: true; the input reads as it did. -/
def fnSkipSpaceStopsAtTheFirstNonSpaceSpec : ChangeSpec := { name := "fnSkipSpaceStopsAtTheFirstNonSpace", fn := fun _ => fun
  | [d1, d2] => { results := [.lit (.bool true)], args := [d1, d2] }
  | _ => none }
def fnSkipSpaceStopsAtTheFirstNonSpaceRow : OpenClaim := { program := "qxb6600069a", sum := "1b5c707dfa2f283f82b8c9781d2bcff49a6229a1d24263dc4ac7b869c0d9ac71", func := "example.com/vestwright/vestwright/zzlaws_pkg_jsondoc_b1.FnSkipSpaceStopsAtTheFirstNonSpace", spec := "fnSkipSpaceStopsAtTheFirstNonSpace", apart := false }
def FnSkipSpaceStopsAtTheFirstNonSpaceSaid : Prop := fnSkipSpaceStopsAtTheFirstNonSpaceRow.holds Try.pinned (OpenSpec.ofChange fnSkipSpaceStopsAtTheFirstNonSpaceSpec)

/-- ITS FALSE NEIGHBOUR: 'it returns false'. Refute it at one input. -/
def fnSkipSpaceStopsAtTheFirstNonSpaceWrong : ChangeSpec := { name := "fnSkipSpaceStopsAtTheFirstNonSpace", fn := fun _ => fun
  | [d1, d2] => { results := [.lit (.bool false)], args := [d1, d2] }
  | _ => none }
def FnSkipSpaceStopsAtTheFirstNonSpaceWrongFalsely : Prop := fnSkipSpaceStopsAtTheFirstNonSpaceRow.holds Try.pinned (OpenSpec.ofChange fnSkipSpaceStopsAtTheFirstNonSpaceWrong)

/-- 'zzlaws_pkg_jsondoc_b1.FnSkipSpaceIsMonotoneAndSettles': WHATEVER THE INPUT: true; the input reads as it did. -/
def fnSkipSpaceIsMonotoneAndSettlesSpec : ChangeSpec := { name := "fnSkipSpaceIsMonotoneAndSettles", fn := fun _ => fun
  | [d1, d2, d3] => { results := [.lit (.bool true)], args := [d1, d2, d3] }
  | _ => none }
def fnSkipSpaceIsMonotoneAndSettlesRow : OpenClaim := { program := "qxb6600069a", sum := "1b5c707dfa2f283f82b8c9781d2bcff49a6229a1d24263dc4ac7b869c0d9ac71", func := "example.com/vestwright/vestwright/zzlaws_pkg_jsondoc_b1.FnSkipSpaceIsMonotoneAndSettles", spec := "fnSkipSpaceIsMonotoneAndSettles", apart := false }
def FnSkipSpaceIsMonotoneAndSettlesSaid : Prop := fnSkipSpaceIsMonotoneAndSettlesRow.holds Try.pinned (OpenSpec.ofChange fnSkipSpaceIsMonotoneAndSettlesSpec)

/-- ITS FALSE NEIGHBOUR: 'it returns false'. Refute it at one input. -/
def fnSkipSpaceIsMonotoneAndSettlesWrong : ChangeSpec := { name := "fnSkipSpaceIsMonotoneAndSettles", fn := fun _ => fun
  | [d1, d2, d3] => { results := [.lit (.bool false)], args := [d1, d2, d3] }
  | _ => none }
def FnSkipSpaceIsMonotoneAndSettlesWrongFalsely : Prop := fnSkipSpaceIsMonotoneAndSettlesRow.holds Try.pinned (OpenSpec.ofChange fnSkipSpaceIsMonotoneAndSettlesWrong)

end Rows
end Go.Proofs.Qxb6600069a
