/-
  No cell of these rows narrows 'for every input' (looked for: loops, veiled, ifaces, maps, wideKeys, modest, calm, conditions, laid).
  DERIVED. THE GIVEN ROWS OF THIS SEAT. 8 by the template 'for every input the law returns true; each argument reads behind the call as it read before'; 0 by the template 'total and deterministic' (their statements: Qxb6001350aModsTotals.lean).
  GIVEN WITH THE SEED: the statements are not yours to turn. If you find one false, say at which input.
  Laid BY PROGRAM, IN A SANDBOX (cutbox-rows.mjs): the forced cells as the released guide's own fill.sh prints them over the translation 8d31b9dc4ef2b08b… (all of the seat's roots in one cut). By AI agents, Wed Nov 11 2026. No macro, syntax, notation, axiom, sorry.
-/
import Derived.Test.Qxb6001350aModsChecked
import GoSem.Claim
import GoSem.ClaimJoined
import GoSem.ClaimMapViews
import Derived.JoinedTies
import Derived.KernelRfl
namespace Go.Proofs.Qxb6001350aMods
/- THE CELL 'sum', in the pinned program and in every row, IS THE sha256 OF THE DUMP (.gsa) THAT Qxb6001350aModsProg.lean LOADS. Nothing in Lean hashes anything: it is a label: what it is worth is what the hold of that sum in a sandbox is worth. -/
noncomputable def Trym.pinned : Pinned := { name := "qxb6001350amods", sum := "8d31b9dc4ef2b08b170caadfe7c81e336c9c90fa737e1230546eaae79bdf882a", checked := Trym.checked }
namespace Rows
def none {H : Type} : Left H := { results := [], args := [] }

/-- 'zzlaws_pkg_bench_b1.FnMeanLiesBetweenLeastAndGreatest': WHATEVER THE INPUT: true; the input reads as it did. -/
def fnMeanLiesBetweenLeastAndGreatestSpec : ChangeSpec := { name := "fnMeanLiesBetweenLeastAndGreatest", fn := fun _ => fun
  | [d] => { results := [.lit (.bool true)], args := [d] }
  | _ => none }
def fnMeanLiesBetweenLeastAndGreatestRow : OpenClaim := { program := "qxb6001350amods", sum := "8d31b9dc4ef2b08b170caadfe7c81e336c9c90fa737e1230546eaae79bdf882a", func := "example.com/amendry/amendry/zzlaws_pkg_bench_b1.FnMeanLiesBetweenLeastAndGreatest", spec := "fnMeanLiesBetweenLeastAndGreatest", make := .lifted ["publicsums"], apart := false }
def FnMeanLiesBetweenLeastAndGreatestSaid : Prop := fnMeanLiesBetweenLeastAndGreatestRow.holds Trym.pinned (OpenSpec.ofChange fnMeanLiesBetweenLeastAndGreatestSpec)

/-- ITS FALSE NEIGHBOUR: 'it returns false'. Refute it at one input. -/
def fnMeanLiesBetweenLeastAndGreatestWrong : ChangeSpec := { name := "fnMeanLiesBetweenLeastAndGreatest", fn := fun _ => fun
  | [d] => { results := [.lit (.bool false)], args := [d] }
  | _ => none }
def FnMeanLiesBetweenLeastAndGreatestWrongFalsely : Prop := fnMeanLiesBetweenLeastAndGreatestRow.holds Trym.pinned (OpenSpec.ofChange fnMeanLiesBetweenLeastAndGreatestWrong)

/-- 'zzlaws_pkg_bench_b1.FnMeanIgnoresOrderAndRepetition': WHATEVER THE INPUT: true; the input reads as it did. -/
def fnMeanIgnoresOrderAndRepetitionSpec : ChangeSpec := { name := "fnMeanIgnoresOrderAndRepetition", fn := fun _ => fun
  | [d] => { results := [.lit (.bool true)], args := [d] }
  | _ => none }
def fnMeanIgnoresOrderAndRepetitionRow : OpenClaim := { program := "qxb6001350amods", sum := "8d31b9dc4ef2b08b170caadfe7c81e336c9c90fa737e1230546eaae79bdf882a", func := "example.com/amendry/amendry/zzlaws_pkg_bench_b1.FnMeanIgnoresOrderAndRepetition", spec := "fnMeanIgnoresOrderAndRepetition", make := .lifted ["publicsums"], apart := false }
def FnMeanIgnoresOrderAndRepetitionSaid : Prop := fnMeanIgnoresOrderAndRepetitionRow.holds Trym.pinned (OpenSpec.ofChange fnMeanIgnoresOrderAndRepetitionSpec)

/-- ITS FALSE NEIGHBOUR: 'it returns false'. Refute it at one input. -/
def fnMeanIgnoresOrderAndRepetitionWrong : ChangeSpec := { name := "fnMeanIgnoresOrderAndRepetition", fn := fun _ => fun
  | [d] => { results := [.lit (.bool false)], args := [d] }
  | _ => none }
def FnMeanIgnoresOrderAndRepetitionWrongFalsely : Prop := fnMeanIgnoresOrderAndRepetitionRow.holds Trym.pinned (OpenSpec.ofChange fnMeanIgnoresOrderAndRepetitionWrong)

/-- 'zzlaws_pkg_bench_b1.FnResidualNeverNegative': WHATEVER THE INPUT: true; the input reads as it did. -/
def fnResidualNeverNegativeSpec : ChangeSpec := { name := "fnResidualNeverNegative", fn := fun _ => fun
  | [d1, d2, d3, d4] => { results := [.lit (.bool true)], args := [d1, d2, d3, d4] }
  | _ => none }
def fnResidualNeverNegativeRow : OpenClaim := { program := "qxb6001350amods", sum := "8d31b9dc4ef2b08b170caadfe7c81e336c9c90fa737e1230546eaae79bdf882a", func := "example.com/amendry/amendry/zzlaws_pkg_bench_b1.FnResidualNeverNegative", spec := "fnResidualNeverNegative", make := .lifted ["publicsums"], apart := false }
def FnResidualNeverNegativeSaid : Prop := fnResidualNeverNegativeRow.holds Trym.pinned (OpenSpec.ofChange fnResidualNeverNegativeSpec)

/-- ITS FALSE NEIGHBOUR: 'it returns false'. Refute it at one input. -/
def fnResidualNeverNegativeWrong : ChangeSpec := { name := "fnResidualNeverNegative", fn := fun _ => fun
  | [d1, d2, d3, d4] => { results := [.lit (.bool false)], args := [d1, d2, d3, d4] }
  | _ => none }
def FnResidualNeverNegativeWrongFalsely : Prop := fnResidualNeverNegativeRow.holds Trym.pinned (OpenSpec.ofChange fnResidualNeverNegativeWrong)

/-- 'zzlaws_pkg_bench_b1.FnResidualCountsOneMissAsItsSquare': WHATEVER THE INPUT: true; the input reads as it did. -/
def fnResidualCountsOneMissAsItsSquareSpec : ChangeSpec := { name := "fnResidualCountsOneMissAsItsSquare", fn := fun _ => fun
  | [d1, d2, d3, d4, d5] => { results := [.lit (.bool true)], args := [d1, d2, d3, d4, d5] }
  | _ => none }
def fnResidualCountsOneMissAsItsSquareRow : OpenClaim := { program := "qxb6001350amods", sum := "8d31b9dc4ef2b08b170caadfe7c81e336c9c90fa737e1230546eaae79bdf882a", func := "example.com/amendry/amendry/zzlaws_pkg_bench_b1.FnResidualCountsOneMissAsItsSquare", spec := "fnResidualCountsOneMissAsItsSquare", make := .lifted ["publicsums"], apart := false }
def FnResidualCountsOneMissAsItsSquareSaid : Prop := fnResidualCountsOneMissAsItsSquareRow.holds Trym.pinned (OpenSpec.ofChange fnResidualCountsOneMissAsItsSquareSpec)

/-- ITS FALSE NEIGHBOUR: 'it returns false'. Refute it at one input. -/
def fnResidualCountsOneMissAsItsSquareWrong : ChangeSpec := { name := "fnResidualCountsOneMissAsItsSquare", fn := fun _ => fun
  | [d1, d2, d3, d4, d5] => { results := [.lit (.bool false)], args := [d1, d2, d3, d4, d5] }
  | _ => none }
def FnResidualCountsOneMissAsItsSquareWrongFalsely : Prop := fnResidualCountsOneMissAsItsSquareRow.holds Trym.pinned (OpenSpec.ofChange fnResidualCountsOneMissAsItsSquareWrong)

/-- 'zzlaws_pkg_bench_b1.FnResidualAddsOverJoinedWorkloads': WHATEVER THE INPUT: true; the input reads as it did. -/
def fnResidualAddsOverJoinedWorkloadsSpec : ChangeSpec := { name := "fnResidualAddsOverJoinedWorkloads", fn := fun _ => fun
  | [d1, d2, d3, d4, d5, d6] => { results := [.lit (.bool true)], args := [d1, d2, d3, d4, d5, d6] }
  | _ => none }
def fnResidualAddsOverJoinedWorkloadsRow : OpenClaim := { program := "qxb6001350amods", sum := "8d31b9dc4ef2b08b170caadfe7c81e336c9c90fa737e1230546eaae79bdf882a", func := "example.com/amendry/amendry/zzlaws_pkg_bench_b1.FnResidualAddsOverJoinedWorkloads", spec := "fnResidualAddsOverJoinedWorkloads", make := .lifted ["publicsums"], apart := false }
def FnResidualAddsOverJoinedWorkloadsSaid : Prop := fnResidualAddsOverJoinedWorkloadsRow.holds Trym.pinned (OpenSpec.ofChange fnResidualAddsOverJoinedWorkloadsSpec)

/-- ITS FALSE NEIGHBOUR: 'it returns false'. Refute it at one input. -/
def fnResidualAddsOverJoinedWorkloadsWrong : ChangeSpec := { name := "fnResidualAddsOverJoinedWorkloads", fn := fun _ => fun
  | [d1, d2, d3, d4, d5, d6] => { results := [.lit (.bool false)], args := [d1, d2, d3, d4, d5, d6] }
  | _ => none }
def FnResidualAddsOverJoinedWorkloadsWrongFalsely : Prop := fnResidualAddsOverJoinedWorkloadsRow.holds Trym.pinned (OpenSpec.ofChange fnResidualAddsOverJoinedWorkloadsWrong)

/-- 'zzlaws_pkg_bench_b1.FnFitCoefficientsNeverNegative': WHATEVER THE INPUT: true; the input reads as it did. -/
def fnFitCoefficientsNeverNegativeSpec : ChangeSpec := { name := "fnFitCoefficientsNeverNegative", fn := fun _ => fun
  | [d1, d2] => { results := [.lit (.bool true)], args := [d1, d2] }
  | _ => none }
def fnFitCoefficientsNeverNegativeRow : OpenClaim := { program := "qxb6001350amods", sum := "8d31b9dc4ef2b08b170caadfe7c81e336c9c90fa737e1230546eaae79bdf882a", func := "example.com/amendry/amendry/zzlaws_pkg_bench_b1.FnFitCoefficientsNeverNegative", spec := "fnFitCoefficientsNeverNegative", make := .lifted ["publicsums"], apart := false }
def FnFitCoefficientsNeverNegativeSaid : Prop := fnFitCoefficientsNeverNegativeRow.holds Trym.pinned (OpenSpec.ofChange fnFitCoefficientsNeverNegativeSpec)

/-- ITS FALSE NEIGHBOUR: 'it returns false'. Refute it at one input. -/
def fnFitCoefficientsNeverNegativeWrong : ChangeSpec := { name := "fnFitCoefficientsNeverNegative", fn := fun _ => fun
  | [d1, d2] => { results := [.lit (.bool false)], args := [d1, d2] }
  | _ => none }
def FnFitCoefficientsNeverNegativeWrongFalsely : Prop := fnFitCoefficientsNeverNegativeRow.holds Trym.pinned (OpenSpec.ofChange fnFitCoefficientsNeverNegativeWrong)

/-- 'zzlaws_pkg_bench_b1.FnFitOfConstantTimesIsFlat': WHATEVER THE INPUT: true; the input reads as it did. -/
def fnFitOfConstantTimesIsFlatSpec : ChangeSpec := { name := "fnFitOfConstantTimesIsFlat", fn := fun _ => fun
  | [d1, d2] => { results := [.lit (.bool true)], args := [d1, d2] }
  | _ => none }
def fnFitOfConstantTimesIsFlatRow : OpenClaim := { program := "qxb6001350amods", sum := "8d31b9dc4ef2b08b170caadfe7c81e336c9c90fa737e1230546eaae79bdf882a", func := "example.com/amendry/amendry/zzlaws_pkg_bench_b1.FnFitOfConstantTimesIsFlat", spec := "fnFitOfConstantTimesIsFlat", make := .lifted ["publicsums"], apart := false }
def FnFitOfConstantTimesIsFlatSaid : Prop := fnFitOfConstantTimesIsFlatRow.holds Trym.pinned (OpenSpec.ofChange fnFitOfConstantTimesIsFlatSpec)

/-- ITS FALSE NEIGHBOUR: 'it returns false'. Refute it at one input. -/
def fnFitOfConstantTimesIsFlatWrong : ChangeSpec := { name := "fnFitOfConstantTimesIsFlat", fn := fun _ => fun
  | [d1, d2] => { results := [.lit (.bool false)], args := [d1, d2] }
  | _ => none }
def FnFitOfConstantTimesIsFlatWrongFalsely : Prop := fnFitOfConstantTimesIsFlatRow.holds Trym.pinned (OpenSpec.ofChange fnFitOfConstantTimesIsFlatWrong)

/-- 'zzlaws_pkg_bench_b1.FnFitWithoutSizesIsTheMeanTime': WHATEVER THE INPUT: true; the input reads as it did. -/
def fnFitWithoutSizesIsTheMeanTimeSpec : ChangeSpec := { name := "fnFitWithoutSizesIsTheMeanTime", fn := fun _ => fun
  | [d] => { results := [.lit (.bool true)], args := [d] }
  | _ => none }
def fnFitWithoutSizesIsTheMeanTimeRow : OpenClaim := { program := "qxb6001350amods", sum := "8d31b9dc4ef2b08b170caadfe7c81e336c9c90fa737e1230546eaae79bdf882a", func := "example.com/amendry/amendry/zzlaws_pkg_bench_b1.FnFitWithoutSizesIsTheMeanTime", spec := "fnFitWithoutSizesIsTheMeanTime", make := .lifted ["publicsums"], apart := false }
def FnFitWithoutSizesIsTheMeanTimeSaid : Prop := fnFitWithoutSizesIsTheMeanTimeRow.holds Trym.pinned (OpenSpec.ofChange fnFitWithoutSizesIsTheMeanTimeSpec)

/-- ITS FALSE NEIGHBOUR: 'it returns false'. Refute it at one input. -/
def fnFitWithoutSizesIsTheMeanTimeWrong : ChangeSpec := { name := "fnFitWithoutSizesIsTheMeanTime", fn := fun _ => fun
  | [d] => { results := [.lit (.bool false)], args := [d] }
  | _ => none }
def FnFitWithoutSizesIsTheMeanTimeWrongFalsely : Prop := fnFitWithoutSizesIsTheMeanTimeRow.holds Trym.pinned (OpenSpec.ofChange fnFitWithoutSizesIsTheMeanTimeWrong)

end Rows
end Go.Proofs.Qxb6001350aMods
