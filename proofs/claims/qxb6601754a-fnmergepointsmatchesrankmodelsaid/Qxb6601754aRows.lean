/-
  No cell of these rows narrows 'for every input' (looked for: loops, veiled, ifaces, maps, wideKeys, modest, calm, conditions, laid).
  DERIVED. THE GIVEN ROWS OF THIS SEAT. 8 by the template 'for every input the law returns true; each argument reads behind the call as it read before'; 0 by the template 'total and deterministic' (their statements: Qxb6601754aTotals.lean).
  GIVEN WITH THE SEED: the statements are not yours to turn. If you find one false, say at which input.
  Laid BY PROGRAM, IN A SANDBOX (cutbox-rows.mjs): the forced cells as the released guide's own fill.sh prints them over the translation d76edd4d8e8c4db1… (all of the seat's roots in one cut). By AI agents, Wed Nov 11 2026. No macro, syntax, notation, axiom, sorry.
-/
import Derived.Test.Qxb6601754aChecked
import GoSem.Claim
import GoSem.ClaimJoined
import GoSem.ClaimMapViews
import Derived.JoinedTies
import Derived.KernelRfl
namespace Go.Proofs.Qxb6601754a
/- THE CELL 'sum', in the pinned program and in every row, IS THE sha256 OF THE DUMP (.gsa) THAT Qxb6601754aProg.lean LOADS. Nothing in Lean hashes anything: it is a label: what it is worth is what the hold of that sum in a sandbox is worth. -/
noncomputable def Try.pinned : Pinned := { name := "qxb6601754a", sum := "d76edd4d8e8c4db13c1d12d4792a77b27ebb7fcd150c5edd6150a6dcb4ef2705", checked := Try.checked }
namespace Rows
def none {H : Type} : Left H := { results := [], args := [] }

/-- 'zzlaws_query_b1.FnMergePointsMatchesRankModel': WHATEVER THE INPUT: true; the input reads as it did. -/
def fnMergePointsMatchesRankModelSpec : ChangeSpec := { name := "fnMergePointsMatchesRankModel", fn := fun _ => fun
  | [d1, d2] => { results := [.lit (.bool true)], args := [d1, d2] }
  | _ => none }
def fnMergePointsMatchesRankModelRow : OpenClaim := { program := "qxb6601754a", sum := "d76edd4d8e8c4db13c1d12d4792a77b27ebb7fcd150c5edd6150a6dcb4ef2705", func := "example.com/gaugewell/gaugewell/zzlaws_query_b1.FnMergePointsMatchesRankModel", spec := "fnMergePointsMatchesRankModel", apart := false }
def FnMergePointsMatchesRankModelSaid : Prop := fnMergePointsMatchesRankModelRow.holds Try.pinned (OpenSpec.ofChange fnMergePointsMatchesRankModelSpec)

/-- ITS FALSE NEIGHBOUR: 'it returns false'. Refute it at one input. -/
def fnMergePointsMatchesRankModelWrong : ChangeSpec := { name := "fnMergePointsMatchesRankModel", fn := fun _ => fun
  | [d1, d2] => { results := [.lit (.bool false)], args := [d1, d2] }
  | _ => none }
def FnMergePointsMatchesRankModelWrongFalsely : Prop := fnMergePointsMatchesRankModelRow.holds Try.pinned (OpenSpec.ofChange fnMergePointsMatchesRankModelWrong)

/-- 'zzlaws_query_b1.FnMergePointsCommutes': WHATEVER THE INPUT: true; the input reads as it did. -/
def fnMergePointsCommutesSpec : ChangeSpec := { name := "fnMergePointsCommutes", fn := fun _ => fun
  | [d1, d2] => { results := [.lit (.bool true)], args := [d1, d2] }
  | _ => none }
def fnMergePointsCommutesRow : OpenClaim := { program := "qxb6601754a", sum := "d76edd4d8e8c4db13c1d12d4792a77b27ebb7fcd150c5edd6150a6dcb4ef2705", func := "example.com/gaugewell/gaugewell/zzlaws_query_b1.FnMergePointsCommutes", spec := "fnMergePointsCommutes", apart := false }
def FnMergePointsCommutesSaid : Prop := fnMergePointsCommutesRow.holds Try.pinned (OpenSpec.ofChange fnMergePointsCommutesSpec)

/-- ITS FALSE NEIGHBOUR: 'it returns false'. Refute it at one input. -/
def fnMergePointsCommutesWrong : ChangeSpec := { name := "fnMergePointsCommutes", fn := fun _ => fun
  | [d1, d2] => { results := [.lit (.bool false)], args := [d1, d2] }
  | _ => none }
def FnMergePointsCommutesWrongFalsely : Prop := fnMergePointsCommutesRow.holds Try.pinned (OpenSpec.ofChange fnMergePointsCommutesWrong)

/-- 'zzlaws_query_b1.FnExtrapolatedDeltaTimeShiftInvariant': WHATEVER THE INPUT: true; the input reads as it did. -/
def fnExtrapolatedDeltaTimeShiftInvariantSpec : ChangeSpec := { name := "fnExtrapolatedDeltaTimeShiftInvariant", fn := fun _ => fun
  | [d1, d2, d3, d4, d5, d6] => { results := [.lit (.bool true)], args := [d1, d2, d3, d4, d5, d6] }
  | _ => none }
def fnExtrapolatedDeltaTimeShiftInvariantRow : OpenClaim := { program := "qxb6601754a", sum := "d76edd4d8e8c4db13c1d12d4792a77b27ebb7fcd150c5edd6150a6dcb4ef2705", func := "example.com/gaugewell/gaugewell/zzlaws_query_b1.FnExtrapolatedDeltaTimeShiftInvariant", spec := "fnExtrapolatedDeltaTimeShiftInvariant", apart := false }
def FnExtrapolatedDeltaTimeShiftInvariantSaid : Prop := fnExtrapolatedDeltaTimeShiftInvariantRow.holds Try.pinned (OpenSpec.ofChange fnExtrapolatedDeltaTimeShiftInvariantSpec)

/-- ITS FALSE NEIGHBOUR: 'it returns false'. Refute it at one input. -/
def fnExtrapolatedDeltaTimeShiftInvariantWrong : ChangeSpec := { name := "fnExtrapolatedDeltaTimeShiftInvariant", fn := fun _ => fun
  | [d1, d2, d3, d4, d5, d6] => { results := [.lit (.bool false)], args := [d1, d2, d3, d4, d5, d6] }
  | _ => none }
def FnExtrapolatedDeltaTimeShiftInvariantWrongFalsely : Prop := fnExtrapolatedDeltaTimeShiftInvariantRow.holds Try.pinned (OpenSpec.ofChange fnExtrapolatedDeltaTimeShiftInvariantWrong)

/-- 'zzlaws_query_b1.FnExtrapolatedDeltaOddInValuesNonCounter': WHATEVER THE INPUT: true; the input reads as it did. -/
def fnExtrapolatedDeltaOddInValuesNonCounterSpec : ChangeSpec := { name := "fnExtrapolatedDeltaOddInValuesNonCounter", fn := fun _ => fun
  | [d1, d2, d3, d4] => { results := [.lit (.bool true)], args := [d1, d2, d3, d4] }
  | _ => none }
def fnExtrapolatedDeltaOddInValuesNonCounterRow : OpenClaim := { program := "qxb6601754a", sum := "d76edd4d8e8c4db13c1d12d4792a77b27ebb7fcd150c5edd6150a6dcb4ef2705", func := "example.com/gaugewell/gaugewell/zzlaws_query_b1.FnExtrapolatedDeltaOddInValuesNonCounter", spec := "fnExtrapolatedDeltaOddInValuesNonCounter", apart := false }
def FnExtrapolatedDeltaOddInValuesNonCounterSaid : Prop := fnExtrapolatedDeltaOddInValuesNonCounterRow.holds Try.pinned (OpenSpec.ofChange fnExtrapolatedDeltaOddInValuesNonCounterSpec)

/-- ITS FALSE NEIGHBOUR: 'it returns false'. Refute it at one input. -/
def fnExtrapolatedDeltaOddInValuesNonCounterWrong : ChangeSpec := { name := "fnExtrapolatedDeltaOddInValuesNonCounter", fn := fun _ => fun
  | [d1, d2, d3, d4] => { results := [.lit (.bool false)], args := [d1, d2, d3, d4] }
  | _ => none }
def FnExtrapolatedDeltaOddInValuesNonCounterWrongFalsely : Prop := fnExtrapolatedDeltaOddInValuesNonCounterRow.holds Try.pinned (OpenSpec.ofChange fnExtrapolatedDeltaOddInValuesNonCounterWrong)

/-- 'zzlaws_query_b1.FnExtrapolatedDeltaCounterNeverNegative': WHATEVER THE INPUT: true; the input reads as it did. -/
def fnExtrapolatedDeltaCounterNeverNegativeSpec : ChangeSpec := { name := "fnExtrapolatedDeltaCounterNeverNegative", fn := fun _ => fun
  | [d1, d2, d3, d4] => { results := [.lit (.bool true)], args := [d1, d2, d3, d4] }
  | _ => none }
def fnExtrapolatedDeltaCounterNeverNegativeRow : OpenClaim := { program := "qxb6601754a", sum := "d76edd4d8e8c4db13c1d12d4792a77b27ebb7fcd150c5edd6150a6dcb4ef2705", func := "example.com/gaugewell/gaugewell/zzlaws_query_b1.FnExtrapolatedDeltaCounterNeverNegative", spec := "fnExtrapolatedDeltaCounterNeverNegative", apart := false }
def FnExtrapolatedDeltaCounterNeverNegativeSaid : Prop := fnExtrapolatedDeltaCounterNeverNegativeRow.holds Try.pinned (OpenSpec.ofChange fnExtrapolatedDeltaCounterNeverNegativeSpec)

/-- ITS FALSE NEIGHBOUR: 'it returns false'. Refute it at one input. -/
def fnExtrapolatedDeltaCounterNeverNegativeWrong : ChangeSpec := { name := "fnExtrapolatedDeltaCounterNeverNegative", fn := fun _ => fun
  | [d1, d2, d3, d4] => { results := [.lit (.bool false)], args := [d1, d2, d3, d4] }
  | _ => none }
def FnExtrapolatedDeltaCounterNeverNegativeWrongFalsely : Prop := fnExtrapolatedDeltaCounterNeverNegativeRow.holds Try.pinned (OpenSpec.ofChange fnExtrapolatedDeltaCounterNeverNegativeWrong)

/-- 'zzlaws_query_b1.FnInstantDeltaAgreesWithExtrapolatedDelta': WHATEVER THE INPUT: true; the input reads as it did. -/
def fnInstantDeltaAgreesWithExtrapolatedDeltaSpec : ChangeSpec := { name := "fnInstantDeltaAgreesWithExtrapolatedDelta", fn := fun _ => fun
  | [d] => { results := [.lit (.bool true)], args := [d] }
  | _ => none }
def fnInstantDeltaAgreesWithExtrapolatedDeltaRow : OpenClaim := { program := "qxb6601754a", sum := "d76edd4d8e8c4db13c1d12d4792a77b27ebb7fcd150c5edd6150a6dcb4ef2705", func := "example.com/gaugewell/gaugewell/zzlaws_query_b1.FnInstantDeltaAgreesWithExtrapolatedDelta", spec := "fnInstantDeltaAgreesWithExtrapolatedDelta", apart := false }
def FnInstantDeltaAgreesWithExtrapolatedDeltaSaid : Prop := fnInstantDeltaAgreesWithExtrapolatedDeltaRow.holds Try.pinned (OpenSpec.ofChange fnInstantDeltaAgreesWithExtrapolatedDeltaSpec)

/-- ITS FALSE NEIGHBOUR: 'it returns false'. Refute it at one input. -/
def fnInstantDeltaAgreesWithExtrapolatedDeltaWrong : ChangeSpec := { name := "fnInstantDeltaAgreesWithExtrapolatedDelta", fn := fun _ => fun
  | [d] => { results := [.lit (.bool false)], args := [d] }
  | _ => none }
def FnInstantDeltaAgreesWithExtrapolatedDeltaWrongFalsely : Prop := fnInstantDeltaAgreesWithExtrapolatedDeltaRow.holds Try.pinned (OpenSpec.ofChange fnInstantDeltaAgreesWithExtrapolatedDeltaWrong)

/-- 'zzlaws_query_b1.FnInstantDeltaReadsOnlyLastTwoAndTheirGap': WHATEVER THE INPUT: true; the input reads as it did. -/
def fnInstantDeltaReadsOnlyLastTwoAndTheirGapSpec : ChangeSpec := { name := "fnInstantDeltaReadsOnlyLastTwoAndTheirGap", fn := fun _ => fun
  | [d1, d2, d3] => { results := [.lit (.bool true)], args := [d1, d2, d3] }
  | _ => none }
def fnInstantDeltaReadsOnlyLastTwoAndTheirGapRow : OpenClaim := { program := "qxb6601754a", sum := "d76edd4d8e8c4db13c1d12d4792a77b27ebb7fcd150c5edd6150a6dcb4ef2705", func := "example.com/gaugewell/gaugewell/zzlaws_query_b1.FnInstantDeltaReadsOnlyLastTwoAndTheirGap", spec := "fnInstantDeltaReadsOnlyLastTwoAndTheirGap", apart := false }
def FnInstantDeltaReadsOnlyLastTwoAndTheirGapSaid : Prop := fnInstantDeltaReadsOnlyLastTwoAndTheirGapRow.holds Try.pinned (OpenSpec.ofChange fnInstantDeltaReadsOnlyLastTwoAndTheirGapSpec)

/-- ITS FALSE NEIGHBOUR: 'it returns false'. Refute it at one input. -/
def fnInstantDeltaReadsOnlyLastTwoAndTheirGapWrong : ChangeSpec := { name := "fnInstantDeltaReadsOnlyLastTwoAndTheirGap", fn := fun _ => fun
  | [d1, d2, d3] => { results := [.lit (.bool false)], args := [d1, d2, d3] }
  | _ => none }
def FnInstantDeltaReadsOnlyLastTwoAndTheirGapWrongFalsely : Prop := fnInstantDeltaReadsOnlyLastTwoAndTheirGapRow.holds Try.pinned (OpenSpec.ofChange fnInstantDeltaReadsOnlyLastTwoAndTheirGapWrong)

/-- 'zzlaws_query_b1.FnInstantDeltaCounterRateNeverNegative': WHATEVER THE INPUT: true; the input reads as it did. -/
def fnInstantDeltaCounterRateNeverNegativeSpec : ChangeSpec := { name := "fnInstantDeltaCounterRateNeverNegative", fn := fun _ => fun
  | [d] => { results := [.lit (.bool true)], args := [d] }
  | _ => none }
def fnInstantDeltaCounterRateNeverNegativeRow : OpenClaim := { program := "qxb6601754a", sum := "d76edd4d8e8c4db13c1d12d4792a77b27ebb7fcd150c5edd6150a6dcb4ef2705", func := "example.com/gaugewell/gaugewell/zzlaws_query_b1.FnInstantDeltaCounterRateNeverNegative", spec := "fnInstantDeltaCounterRateNeverNegative", apart := false }
def FnInstantDeltaCounterRateNeverNegativeSaid : Prop := fnInstantDeltaCounterRateNeverNegativeRow.holds Try.pinned (OpenSpec.ofChange fnInstantDeltaCounterRateNeverNegativeSpec)

/-- ITS FALSE NEIGHBOUR: 'it returns false'. Refute it at one input. -/
def fnInstantDeltaCounterRateNeverNegativeWrong : ChangeSpec := { name := "fnInstantDeltaCounterRateNeverNegative", fn := fun _ => fun
  | [d] => { results := [.lit (.bool false)], args := [d] }
  | _ => none }
def FnInstantDeltaCounterRateNeverNegativeWrongFalsely : Prop := fnInstantDeltaCounterRateNeverNegativeRow.holds Try.pinned (OpenSpec.ofChange fnInstantDeltaCounterRateNeverNegativeWrong)

end Rows
end Go.Proofs.Qxb6601754a
