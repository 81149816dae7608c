/-
  No cell of these rows narrows 'for every input' (looked for: loops, veiled, ifaces, maps, wideKeys, modest, calm, conditions, laid).
  DERIVED. THE GIVEN ROWS OF THIS SEAT. 5 by the template 'for every input the law returns true; each argument reads behind the call as it read before'; 0 by the template 'total and deterministic' (their statements: Qxb6620824aTotals.lean).
  GIVEN WITH THE SEED: the statements are not yours to turn. If you find one false, say at which input.
  Laid BY PROGRAM, IN A SANDBOX (cutbox-rows.mjs): the forced cells as the released guide's own fill.sh prints them over the translation 61f42404a7879970… (all of the seat's roots in one cut). By AI agents, Wed Nov 11 2026. No macro, syntax, notation, axiom, sorry.
-/
import Derived.Test.Qxb6620824aChecked
import GoSem.Claim
import GoSem.ClaimJoined
import GoSem.ClaimMapViews
import Derived.JoinedTies
import Derived.KernelRfl
namespace Go.Proofs.Qxb6620824a
/- THE CELL 'sum', in the pinned program and in every row, IS THE sha256 OF THE DUMP (.gsa) THAT Qxb6620824aProg.lean LOADS. Nothing in Lean hashes anything: it is a label: what it is worth is what the hold of that sum in a sandbox is worth. -/
noncomputable def Try.pinned : Pinned := { name := "qxb6620824a", sum := "61f42404a7879970f1b1f5d656f8dac82728a880a51b21168540c0c090005928", checked := Try.checked }
namespace Rows
def none {H : Type} : Left H := { results := [], args := [] }

/-- 'zzlaws_internal_nat_b1.FnQuoMatchesBitByBitDivision': WHATEVER THE INPUT: true; the input reads as it did. -/
def fnQuoMatchesBitByBitDivisionSpec : ChangeSpec := { name := "fnQuoMatchesBitByBitDivision", fn := fun _ => fun
  | [d1, d2, d3] => { results := [.lit (.bool true)], args := [d1, d2, d3] }
  | _ => none }
def fnQuoMatchesBitByBitDivisionRow : OpenClaim := { program := "qxb6620824a", sum := "61f42404a7879970f1b1f5d656f8dac82728a880a51b21168540c0c090005928", func := "example.com/kontour/kontour/zzlaws_internal_nat_b1.FnQuoMatchesBitByBitDivision", spec := "fnQuoMatchesBitByBitDivision", inPlace := ["math/bits.Add64", "math/bits.Sub64"], named := ["math/bits.overflowError", "math/bits.divideError"], apart := false }
def FnQuoMatchesBitByBitDivisionSaid : Prop := fnQuoMatchesBitByBitDivisionRow.holds Try.pinned (OpenSpec.ofChange fnQuoMatchesBitByBitDivisionSpec)

/-- ITS FALSE NEIGHBOUR: 'it returns false'. Refute it at one input. -/
def fnQuoMatchesBitByBitDivisionWrong : ChangeSpec := { name := "fnQuoMatchesBitByBitDivision", fn := fun _ => fun
  | [d1, d2, d3] => { results := [.lit (.bool false)], args := [d1, d2, d3] }
  | _ => none }
def FnQuoMatchesBitByBitDivisionWrongFalsely : Prop := fnQuoMatchesBitByBitDivisionRow.holds Try.pinned (OpenSpec.ofChange fnQuoMatchesBitByBitDivisionWrong)

/-- 'zzlaws_internal_nat_b1.FnEstimateIsThreeByTwoFloor': WHATEVER THE INPUT: true; the input reads as it did. -/
def fnEstimateIsThreeByTwoFloorSpec : ChangeSpec := { name := "fnEstimateIsThreeByTwoFloor", fn := fun _ => fun
  | [d1, d2, d3, d4, d5] => { results := [.lit (.bool true)], args := [d1, d2, d3, d4, d5] }
  | _ => none }
def fnEstimateIsThreeByTwoFloorRow : OpenClaim := { program := "qxb6620824a", sum := "61f42404a7879970f1b1f5d656f8dac82728a880a51b21168540c0c090005928", func := "example.com/kontour/kontour/zzlaws_internal_nat_b1.FnEstimateIsThreeByTwoFloor", spec := "fnEstimateIsThreeByTwoFloor", inPlace := ["math/bits.Add64"], named := ["math/bits.overflowError", "math/bits.divideError"], apart := false }
def FnEstimateIsThreeByTwoFloorSaid : Prop := fnEstimateIsThreeByTwoFloorRow.holds Try.pinned (OpenSpec.ofChange fnEstimateIsThreeByTwoFloorSpec)

/-- ITS FALSE NEIGHBOUR: 'it returns false'. Refute it at one input. -/
def fnEstimateIsThreeByTwoFloorWrong : ChangeSpec := { name := "fnEstimateIsThreeByTwoFloor", fn := fun _ => fun
  | [d1, d2, d3, d4, d5] => { results := [.lit (.bool false)], args := [d1, d2, d3, d4, d5] }
  | _ => none }
def FnEstimateIsThreeByTwoFloorWrongFalsely : Prop := fnEstimateIsThreeByTwoFloorRow.holds Try.pinned (OpenSpec.ofChange fnEstimateIsThreeByTwoFloorWrong)

/-- 'zzlaws_internal_nat_b1.FnMulAddMatchesColumnProduct': WHATEVER THE INPUT: true; the input reads as it did. -/
def fnMulAddMatchesColumnProductSpec : ChangeSpec := { name := "fnMulAddMatchesColumnProduct", fn := fun _ => fun
  | [d1, d2, d3, d4] => { results := [.lit (.bool true)], args := [d1, d2, d3, d4] }
  | _ => none }
def fnMulAddMatchesColumnProductRow : OpenClaim := { program := "qxb6620824a", sum := "61f42404a7879970f1b1f5d656f8dac82728a880a51b21168540c0c090005928", func := "example.com/kontour/kontour/zzlaws_internal_nat_b1.FnMulAddMatchesColumnProduct", spec := "fnMulAddMatchesColumnProduct", inPlace := ["math/bits.Add64"], apart := false }
def FnMulAddMatchesColumnProductSaid : Prop := fnMulAddMatchesColumnProductRow.holds Try.pinned (OpenSpec.ofChange fnMulAddMatchesColumnProductSpec)

/-- ITS FALSE NEIGHBOUR: 'it returns false'. Refute it at one input. -/
def fnMulAddMatchesColumnProductWrong : ChangeSpec := { name := "fnMulAddMatchesColumnProduct", fn := fun _ => fun
  | [d1, d2, d3, d4] => { results := [.lit (.bool false)], args := [d1, d2, d3, d4] }
  | _ => none }
def FnMulAddMatchesColumnProductWrongFalsely : Prop := fnMulAddMatchesColumnProductRow.holds Try.pinned (OpenSpec.ofChange fnMulAddMatchesColumnProductWrong)

/-- 'zzlaws_internal_nat_b1.FnMulAddThenQuoGivesBackX': WHATEVER THE INPUT: true; the input reads as it did. -/
def fnMulAddThenQuoGivesBackXSpec : ChangeSpec := { name := "fnMulAddThenQuoGivesBackX", fn := fun _ => fun
  | [d1, d2, d3, d4] => { results := [.lit (.bool true)], args := [d1, d2, d3, d4] }
  | _ => none }
def fnMulAddThenQuoGivesBackXRow : OpenClaim := { program := "qxb6620824a", sum := "61f42404a7879970f1b1f5d656f8dac82728a880a51b21168540c0c090005928", func := "example.com/kontour/kontour/zzlaws_internal_nat_b1.FnMulAddThenQuoGivesBackX", spec := "fnMulAddThenQuoGivesBackX", inPlace := ["math/bits.Add64", "math/bits.Sub64"], named := ["math/bits.overflowError", "math/bits.divideError"], apart := false }
def FnMulAddThenQuoGivesBackXSaid : Prop := fnMulAddThenQuoGivesBackXRow.holds Try.pinned (OpenSpec.ofChange fnMulAddThenQuoGivesBackXSpec)

/-- ITS FALSE NEIGHBOUR: 'it returns false'. Refute it at one input. -/
def fnMulAddThenQuoGivesBackXWrong : ChangeSpec := { name := "fnMulAddThenQuoGivesBackX", fn := fun _ => fun
  | [d1, d2, d3, d4] => { results := [.lit (.bool false)], args := [d1, d2, d3, d4] }
  | _ => none }
def FnMulAddThenQuoGivesBackXWrongFalsely : Prop := fnMulAddThenQuoGivesBackXRow.holds Try.pinned (OpenSpec.ofChange fnMulAddThenQuoGivesBackXWrong)

/-- 'zzlaws_internal_nat_b1.FnQuoIsGreatestMultipleBelow': WHATEVER THE INPUT: true; the input reads as it did. -/
def fnQuoIsGreatestMultipleBelowSpec : ChangeSpec := { name := "fnQuoIsGreatestMultipleBelow", fn := fun _ => fun
  | [d1, d2, d3] => { results := [.lit (.bool true)], args := [d1, d2, d3] }
  | _ => none }
def fnQuoIsGreatestMultipleBelowRow : OpenClaim := { program := "qxb6620824a", sum := "61f42404a7879970f1b1f5d656f8dac82728a880a51b21168540c0c090005928", func := "example.com/kontour/kontour/zzlaws_internal_nat_b1.FnQuoIsGreatestMultipleBelow", spec := "fnQuoIsGreatestMultipleBelow", inPlace := ["math/bits.Add64", "math/bits.Sub64"], named := ["math/bits.overflowError", "math/bits.divideError"], apart := false }
def FnQuoIsGreatestMultipleBelowSaid : Prop := fnQuoIsGreatestMultipleBelowRow.holds Try.pinned (OpenSpec.ofChange fnQuoIsGreatestMultipleBelowSpec)

/-- ITS FALSE NEIGHBOUR: 'it returns false'. Refute it at one input. -/
def fnQuoIsGreatestMultipleBelowWrong : ChangeSpec := { name := "fnQuoIsGreatestMultipleBelow", fn := fun _ => fun
  | [d1, d2, d3] => { results := [.lit (.bool false)], args := [d1, d2, d3] }
  | _ => none }
def FnQuoIsGreatestMultipleBelowWrongFalsely : Prop := fnQuoIsGreatestMultipleBelowRow.holds Try.pinned (OpenSpec.ofChange fnQuoIsGreatestMultipleBelowWrong)

end Rows
end Go.Proofs.Qxb6620824a
