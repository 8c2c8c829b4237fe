/-
  No cell of these rows narrows 'for every input' (looked for: loops, veiled, ifaces, maps, wideKeys, modest, calm, conditions, laid).
  DERIVED. THE GIVEN ROWS OF THIS SEAT. 8 by the template 'for every input the law returns true; each argument reads behind the call as it read before'; 0 by the template 'total and deterministic' (their statements: Qxb6600132aTotals.lean).
  GIVEN WITH THE SEED: the statements are not yours to turn. If you find one false, say at which input.
  Laid BY PROGRAM, IN A SANDBOX (cutbox-rows.mjs): the forced cells as the released guide's own fill.sh prints them over the translation 9f6993f57dd51885… (all of the seat's roots in one cut). By AI agents, Wed Nov 11 2026. No macro, syntax, notation, axiom, sorry.
-/
import Derived.Test.Qxb6600132aChecked
import GoSem.Claim
import GoSem.ClaimJoined
import GoSem.ClaimMapViews
import Derived.JoinedTies
import Derived.KernelRfl
namespace Go.Proofs.Qxb6600132a
/- THE CELL 'sum', in the pinned program and in every row, IS THE sha256 OF THE DUMP (.gsa) THAT Qxb6600132aProg.lean LOADS. Nothing in Lean hashes anything: it is a label: what it is worth is what the hold of that sum in a sandbox is worth. -/
noncomputable def Try.pinned : Pinned := { name := "qxb6600132a", sum := "9f6993f57dd51885e08b65c9b413cf06eea1d38608bcd67034ec255109e84eb4", checked := Try.checked }
namespace Rows
def none {H : Type} : Left H := { results := [], args := [] }

/-- 'zzlaws_internal_dailyincome_b1.FnPartitionPermutes': WHATEVER THE INPUT: true; the input reads as it did. -/
def fnPartitionPermutesSpec : ChangeSpec := { name := "fnPartitionPermutes", fn := fun _ => fun
  | [d] => { results := [.lit (.bool true)], args := [d] }
  | _ => none }
def fnPartitionPermutesRow : OpenClaim := { program := "qxb6600132a", sum := "9f6993f57dd51885e08b65c9b413cf06eea1d38608bcd67034ec255109e84eb4", func := "example.com/zhaomu/zhaomu/zzlaws_internal_dailyincome_b1.FnPartitionPermutes", spec := "fnPartitionPermutes", apart := false }
def FnPartitionPermutesSaid : Prop := fnPartitionPermutesRow.holds Try.pinned (OpenSpec.ofChange fnPartitionPermutesSpec)

/-- ITS FALSE NEIGHBOUR: 'it returns false'. Refute it at one input. -/
def fnPartitionPermutesWrong : ChangeSpec := { name := "fnPartitionPermutes", fn := fun _ => fun
  | [d] => { results := [.lit (.bool false)], args := [d] }
  | _ => none }
def FnPartitionPermutesWrongFalsely : Prop := fnPartitionPermutesRow.holds Try.pinned (OpenSpec.ofChange fnPartitionPermutesWrong)

/-- 'zzlaws_internal_dailyincome_b1.FnPartitionSplitsAroundPivot': WHATEVER THE INPUT: true; the input reads as it did. -/
def fnPartitionSplitsAroundPivotSpec : ChangeSpec := { name := "fnPartitionSplitsAroundPivot", fn := fun _ => fun
  | [d] => { results := [.lit (.bool true)], args := [d] }
  | _ => none }
def fnPartitionSplitsAroundPivotRow : OpenClaim := { program := "qxb6600132a", sum := "9f6993f57dd51885e08b65c9b413cf06eea1d38608bcd67034ec255109e84eb4", func := "example.com/zhaomu/zhaomu/zzlaws_internal_dailyincome_b1.FnPartitionSplitsAroundPivot", spec := "fnPartitionSplitsAroundPivot", apart := false }
def FnPartitionSplitsAroundPivotSaid : Prop := fnPartitionSplitsAroundPivotRow.holds Try.pinned (OpenSpec.ofChange fnPartitionSplitsAroundPivotSpec)

/-- ITS FALSE NEIGHBOUR: 'it returns false'. Refute it at one input. -/
def fnPartitionSplitsAroundPivotWrong : ChangeSpec := { name := "fnPartitionSplitsAroundPivot", fn := fun _ => fun
  | [d] => { results := [.lit (.bool false)], args := [d] }
  | _ => none }
def FnPartitionSplitsAroundPivotWrongFalsely : Prop := fnPartitionSplitsAroundPivotRow.holds Try.pinned (OpenSpec.ofChange fnPartitionSplitsAroundPivotWrong)

/-- 'zzlaws_internal_dailyincome_b1.FnPartitionPivotIsMedianOfThree': WHATEVER THE INPUT: true; the input reads as it did. -/
def fnPartitionPivotIsMedianOfThreeSpec : ChangeSpec := { name := "fnPartitionPivotIsMedianOfThree", fn := fun _ => fun
  | [d] => { results := [.lit (.bool true)], args := [d] }
  | _ => none }
def fnPartitionPivotIsMedianOfThreeRow : OpenClaim := { program := "qxb6600132a", sum := "9f6993f57dd51885e08b65c9b413cf06eea1d38608bcd67034ec255109e84eb4", func := "example.com/zhaomu/zhaomu/zzlaws_internal_dailyincome_b1.FnPartitionPivotIsMedianOfThree", spec := "fnPartitionPivotIsMedianOfThree", apart := false }
def FnPartitionPivotIsMedianOfThreeSaid : Prop := fnPartitionPivotIsMedianOfThreeRow.holds Try.pinned (OpenSpec.ofChange fnPartitionPivotIsMedianOfThreeSpec)

/-- ITS FALSE NEIGHBOUR: 'it returns false'. Refute it at one input. -/
def fnPartitionPivotIsMedianOfThreeWrong : ChangeSpec := { name := "fnPartitionPivotIsMedianOfThree", fn := fun _ => fun
  | [d] => { results := [.lit (.bool false)], args := [d] }
  | _ => none }
def FnPartitionPivotIsMedianOfThreeWrongFalsely : Prop := fnPartitionPivotIsMedianOfThreeRow.holds Try.pinned (OpenSpec.ofChange fnPartitionPivotIsMedianOfThreeWrong)

/-- 'zzlaws_internal_dailyincome_b1.FnBeforeTrichotomy': WHATEVER THE INPUT: true; the input reads as it did. -/
def fnBeforeTrichotomySpec : ChangeSpec := { name := "fnBeforeTrichotomy", fn := fun _ => fun
  | [d1, d2] => { results := [.lit (.bool true)], args := [d1, d2] }
  | _ => none }
def fnBeforeTrichotomyRow : OpenClaim := { program := "qxb6600132a", sum := "9f6993f57dd51885e08b65c9b413cf06eea1d38608bcd67034ec255109e84eb4", func := "example.com/zhaomu/zhaomu/zzlaws_internal_dailyincome_b1.FnBeforeTrichotomy", spec := "fnBeforeTrichotomy", apart := false }
def FnBeforeTrichotomySaid : Prop := fnBeforeTrichotomyRow.holds Try.pinned (OpenSpec.ofChange fnBeforeTrichotomySpec)

/-- ITS FALSE NEIGHBOUR: 'it returns false'. Refute it at one input. -/
def fnBeforeTrichotomyWrong : ChangeSpec := { name := "fnBeforeTrichotomy", fn := fun _ => fun
  | [d1, d2] => { results := [.lit (.bool false)], args := [d1, d2] }
  | _ => none }
def FnBeforeTrichotomyWrongFalsely : Prop := fnBeforeTrichotomyRow.holds Try.pinned (OpenSpec.ofChange fnBeforeTrichotomyWrong)

/-- 'zzlaws_internal_dailyincome_b1.FnBeforeTransitive': WHATEVER THE INPUT: true; the input reads as it did. -/
def fnBeforeTransitiveSpec : ChangeSpec := { name := "fnBeforeTransitive", fn := fun _ => fun
  | [d1, d2, d3] => { results := [.lit (.bool true)], args := [d1, d2, d3] }
  | _ => none }
def fnBeforeTransitiveRow : OpenClaim := { program := "qxb6600132a", sum := "9f6993f57dd51885e08b65c9b413cf06eea1d38608bcd67034ec255109e84eb4", func := "example.com/zhaomu/zhaomu/zzlaws_internal_dailyincome_b1.FnBeforeTransitive", spec := "fnBeforeTransitive", apart := false }
def FnBeforeTransitiveSaid : Prop := fnBeforeTransitiveRow.holds Try.pinned (OpenSpec.ofChange fnBeforeTransitiveSpec)

/-- ITS FALSE NEIGHBOUR: 'it returns false'. Refute it at one input. -/
def fnBeforeTransitiveWrong : ChangeSpec := { name := "fnBeforeTransitive", fn := fun _ => fun
  | [d1, d2, d3] => { results := [.lit (.bool false)], args := [d1, d2, d3] }
  | _ => none }
def FnBeforeTransitiveWrongFalsely : Prop := fnBeforeTransitiveRow.holds Try.pinned (OpenSpec.ofChange fnBeforeTransitiveWrong)

/-- 'zzlaws_internal_dailyincome_b1.FnAddKeepsNormalFormAndValue': WHATEVER THE INPUT: true; the input reads as it did. -/
def fnAddKeepsNormalFormAndValueSpec : ChangeSpec := { name := "fnAddKeepsNormalFormAndValue", fn := fun _ => fun
  | [d1, d2, d3, d4] => { results := [.lit (.bool true)], args := [d1, d2, d3, d4] }
  | _ => none }
def fnAddKeepsNormalFormAndValueRow : OpenClaim := { program := "qxb6600132a", sum := "9f6993f57dd51885e08b65c9b413cf06eea1d38608bcd67034ec255109e84eb4", func := "example.com/zhaomu/zhaomu/zzlaws_internal_dailyincome_b1.FnAddKeepsNormalFormAndValue", spec := "fnAddKeepsNormalFormAndValue", apart := false }
def FnAddKeepsNormalFormAndValueSaid : Prop := fnAddKeepsNormalFormAndValueRow.holds Try.pinned (OpenSpec.ofChange fnAddKeepsNormalFormAndValueSpec)

/-- ITS FALSE NEIGHBOUR: 'it returns false'. Refute it at one input. -/
def fnAddKeepsNormalFormAndValueWrong : ChangeSpec := { name := "fnAddKeepsNormalFormAndValue", fn := fun _ => fun
  | [d1, d2, d3, d4] => { results := [.lit (.bool false)], args := [d1, d2, d3, d4] }
  | _ => none }
def FnAddKeepsNormalFormAndValueWrongFalsely : Prop := fnAddKeepsNormalFormAndValueRow.holds Try.pinned (OpenSpec.ofChange fnAddKeepsNormalFormAndValueWrong)

/-- 'zzlaws_internal_dailyincome_b1.FnAddThenSubtractRestores': WHATEVER THE INPUT: true; the input reads as it did. -/
def fnAddThenSubtractRestoresSpec : ChangeSpec := { name := "fnAddThenSubtractRestores", fn := fun _ => fun
  | [d1, d2, d3, d4] => { results := [.lit (.bool true)], args := [d1, d2, d3, d4] }
  | _ => none }
def fnAddThenSubtractRestoresRow : OpenClaim := { program := "qxb6600132a", sum := "9f6993f57dd51885e08b65c9b413cf06eea1d38608bcd67034ec255109e84eb4", func := "example.com/zhaomu/zhaomu/zzlaws_internal_dailyincome_b1.FnAddThenSubtractRestores", spec := "fnAddThenSubtractRestores", apart := false }
def FnAddThenSubtractRestoresSaid : Prop := fnAddThenSubtractRestoresRow.holds Try.pinned (OpenSpec.ofChange fnAddThenSubtractRestoresSpec)

/-- ITS FALSE NEIGHBOUR: 'it returns false'. Refute it at one input. -/
def fnAddThenSubtractRestoresWrong : ChangeSpec := { name := "fnAddThenSubtractRestores", fn := fun _ => fun
  | [d1, d2, d3, d4] => { results := [.lit (.bool false)], args := [d1, d2, d3, d4] }
  | _ => none }
def FnAddThenSubtractRestoresWrongFalsely : Prop := fnAddThenSubtractRestoresRow.holds Try.pinned (OpenSpec.ofChange fnAddThenSubtractRestoresWrong)

/-- 'zzlaws_internal_dailyincome_b1.FnAddCommutes': WHATEVER THE INPUT: true; the input reads as it did. -/
def fnAddCommutesSpec : ChangeSpec := { name := "fnAddCommutes", fn := fun _ => fun
  | [d1, d2, d3, d4, d5] => { results := [.lit (.bool true)], args := [d1, d2, d3, d4, d5] }
  | _ => none }
def fnAddCommutesRow : OpenClaim := { program := "qxb6600132a", sum := "9f6993f57dd51885e08b65c9b413cf06eea1d38608bcd67034ec255109e84eb4", func := "example.com/zhaomu/zhaomu/zzlaws_internal_dailyincome_b1.FnAddCommutes", spec := "fnAddCommutes", apart := false }
def FnAddCommutesSaid : Prop := fnAddCommutesRow.holds Try.pinned (OpenSpec.ofChange fnAddCommutesSpec)

/-- ITS FALSE NEIGHBOUR: 'it returns false'. Refute it at one input. -/
def fnAddCommutesWrong : ChangeSpec := { name := "fnAddCommutes", fn := fun _ => fun
  | [d1, d2, d3, d4, d5] => { results := [.lit (.bool false)], args := [d1, d2, d3, d4, d5] }
  | _ => none }
def FnAddCommutesWrongFalsely : Prop := fnAddCommutesRow.holds Try.pinned (OpenSpec.ofChange fnAddCommutesWrong)

end Rows
end Go.Proofs.Qxb6600132a
