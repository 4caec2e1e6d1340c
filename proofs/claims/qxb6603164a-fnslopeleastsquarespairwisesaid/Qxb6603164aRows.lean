/-
  No cell of these rows narrows 'for every input' (looked for: loops, veiled, ifaces, maps, wideKeys, modest, calm, conditions, laid).
  DERIVED. THE GIVEN ROWS OF THIS SEAT. 7 by the template 'for every input the law returns true; each argument reads behind the call as it read before'; 0 by the template 'total and deterministic' (their statements: Qxb6603164aTotals.lean).
  GIVEN WITH THE SEED: the statements are not yours to turn. If you find one false, say at which input.
  Laid BY PROGRAM, IN A SANDBOX (cutbox-rows.mjs): the forced cells as the released guide's own fill.sh prints them over the translation 926dbd4b8994e822… (all of the seat's roots in one cut). By AI agents, Wed Nov 11 2026. No macro, syntax, notation, axiom, sorry.
-/
import Derived.Test.Qxb6603164aChecked
import GoSem.Claim
import GoSem.ClaimJoined
import GoSem.ClaimMapViews
import Derived.JoinedTies
import Derived.KernelRfl
namespace Go.Proofs.Qxb6603164a
/- THE CELL 'sum', in the pinned program and in every row, IS THE sha256 OF THE DUMP (.gsa) THAT Qxb6603164aProg.lean LOADS. Nothing in Lean hashes anything: it is a label: what it is worth is what the hold of that sum in a sandbox is worth. -/
noncomputable def Try.pinned : Pinned := { name := "qxb6603164a", sum := "926dbd4b8994e8225c86edc25d255a740ab4b1a8385c1f184c6b161d8d32c824", checked := Try.checked }
namespace Rows
def none {H : Type} : Left H := { results := [], args := [] }

/-- 'zzlaws_pkg_sim_b1.FnPercentileNearestRank': WHATEVER THE INPUT: true; the input reads as it did. -/
def fnPercentileNearestRankSpec : ChangeSpec := { name := "fnPercentileNearestRank", fn := fun _ => fun
  | [d1, d2] => { results := [.lit (.bool true)], args := [d1, d2] }
  | _ => none }
def fnPercentileNearestRankRow : OpenClaim := { program := "qxb6603164a", sum := "926dbd4b8994e8225c86edc25d255a740ab4b1a8385c1f184c6b161d8d32c824", func := "example.com/ringlet/ringlet/zzlaws_pkg_sim_b1.FnPercentileNearestRank", spec := "fnPercentileNearestRank", apart := false }
def FnPercentileNearestRankSaid : Prop := fnPercentileNearestRankRow.holds Try.pinned (OpenSpec.ofChange fnPercentileNearestRankSpec)

/-- ITS FALSE NEIGHBOUR: 'it returns false'. Refute it at one input. -/
def fnPercentileNearestRankWrong : ChangeSpec := { name := "fnPercentileNearestRank", fn := fun _ => fun
  | [d1, d2] => { results := [.lit (.bool false)], args := [d1, d2] }
  | _ => none }
def FnPercentileNearestRankWrongFalsely : Prop := fnPercentileNearestRankRow.holds Try.pinned (OpenSpec.ofChange fnPercentileNearestRankWrong)

/-- 'zzlaws_pkg_sim_b1.FnPercentileOrderedInQ': WHATEVER THE INPUT: true; the input reads as it did. -/
def fnPercentileOrderedInQSpec : ChangeSpec := { name := "fnPercentileOrderedInQ", fn := fun _ => fun
  | [d1, d2, d3] => { results := [.lit (.bool true)], args := [d1, d2, d3] }
  | _ => none }
def fnPercentileOrderedInQRow : OpenClaim := { program := "qxb6603164a", sum := "926dbd4b8994e8225c86edc25d255a740ab4b1a8385c1f184c6b161d8d32c824", func := "example.com/ringlet/ringlet/zzlaws_pkg_sim_b1.FnPercentileOrderedInQ", spec := "fnPercentileOrderedInQ", apart := false }
def FnPercentileOrderedInQSaid : Prop := fnPercentileOrderedInQRow.holds Try.pinned (OpenSpec.ofChange fnPercentileOrderedInQSpec)

/-- ITS FALSE NEIGHBOUR: 'it returns false'. Refute it at one input. -/
def fnPercentileOrderedInQWrong : ChangeSpec := { name := "fnPercentileOrderedInQ", fn := fun _ => fun
  | [d1, d2, d3] => { results := [.lit (.bool false)], args := [d1, d2, d3] }
  | _ => none }
def FnPercentileOrderedInQWrongFalsely : Prop := fnPercentileOrderedInQRow.holds Try.pinned (OpenSpec.ofChange fnPercentileOrderedInQWrong)

/-- 'zzlaws_pkg_sim_b1.FnHistogramOfSamples': WHATEVER THE INPUT: true; the input reads as it did. -/
def fnHistogramOfSamplesSpec : ChangeSpec := { name := "fnHistogramOfSamples", fn := fun _ => fun
  | [d1, d2] => { results := [.lit (.bool true)], args := [d1, d2] }
  | _ => none }
def fnHistogramOfSamplesRow : OpenClaim := { program := "qxb6603164a", sum := "926dbd4b8994e8225c86edc25d255a740ab4b1a8385c1f184c6b161d8d32c824", func := "example.com/ringlet/ringlet/zzlaws_pkg_sim_b1.FnHistogramOfSamples", spec := "fnHistogramOfSamples", apart := false }
def FnHistogramOfSamplesSaid : Prop := fnHistogramOfSamplesRow.holds Try.pinned (OpenSpec.ofChange fnHistogramOfSamplesSpec)

/-- ITS FALSE NEIGHBOUR: 'it returns false'. Refute it at one input. -/
def fnHistogramOfSamplesWrong : ChangeSpec := { name := "fnHistogramOfSamples", fn := fun _ => fun
  | [d1, d2] => { results := [.lit (.bool false)], args := [d1, d2] }
  | _ => none }
def FnHistogramOfSamplesWrongFalsely : Prop := fnHistogramOfSamplesRow.holds Try.pinned (OpenSpec.ofChange fnHistogramOfSamplesWrong)

/-- 'zzlaws_pkg_sim_b1.FnCountSplits': WHATEVER THE INPUT: true; the input reads as it did. -/
def fnCountSplitsSpec : ChangeSpec := { name := "fnCountSplits", fn := fun _ => fun
  | [d1, d2] => { results := [.lit (.bool true)], args := [d1, d2] }
  | _ => none }
def fnCountSplitsRow : OpenClaim := { program := "qxb6603164a", sum := "926dbd4b8994e8225c86edc25d255a740ab4b1a8385c1f184c6b161d8d32c824", func := "example.com/ringlet/ringlet/zzlaws_pkg_sim_b1.FnCountSplits", spec := "fnCountSplits", apart := false }
def FnCountSplitsSaid : Prop := fnCountSplitsRow.holds Try.pinned (OpenSpec.ofChange fnCountSplitsSpec)

/-- ITS FALSE NEIGHBOUR: 'it returns false'. Refute it at one input. -/
def fnCountSplitsWrong : ChangeSpec := { name := "fnCountSplits", fn := fun _ => fun
  | [d1, d2] => { results := [.lit (.bool false)], args := [d1, d2] }
  | _ => none }
def FnCountSplitsWrongFalsely : Prop := fnCountSplitsRow.holds Try.pinned (OpenSpec.ofChange fnCountSplitsWrong)

/-- 'zzlaws_pkg_sim_b1.FnSlopeLeastSquaresPairwise': WHATEVER THE INPUT: true; the input reads as it did. -/
def fnSlopeLeastSquaresPairwiseSpec : ChangeSpec := { name := "fnSlopeLeastSquaresPairwise", fn := fun _ => fun
  | [d1, d2] => { results := [.lit (.bool true)], args := [d1, d2] }
  | _ => none }
def fnSlopeLeastSquaresPairwiseRow : OpenClaim := { program := "qxb6603164a", sum := "926dbd4b8994e8225c86edc25d255a740ab4b1a8385c1f184c6b161d8d32c824", func := "example.com/ringlet/ringlet/zzlaws_pkg_sim_b1.FnSlopeLeastSquaresPairwise", spec := "fnSlopeLeastSquaresPairwise", recurses := true, apart := false }
def FnSlopeLeastSquaresPairwiseSaid : Prop := fnSlopeLeastSquaresPairwiseRow.holds Try.pinned (OpenSpec.ofChange fnSlopeLeastSquaresPairwiseSpec)

/-- ITS FALSE NEIGHBOUR: 'it returns false'. Refute it at one input. -/
def fnSlopeLeastSquaresPairwiseWrong : ChangeSpec := { name := "fnSlopeLeastSquaresPairwise", fn := fun _ => fun
  | [d1, d2] => { results := [.lit (.bool false)], args := [d1, d2] }
  | _ => none }
def FnSlopeLeastSquaresPairwiseWrongFalsely : Prop := fnSlopeLeastSquaresPairwiseRow.holds Try.pinned (OpenSpec.ofChange fnSlopeLeastSquaresPairwiseWrong)

/-- 'zzlaws_pkg_sim_b1.FnSlopeOddUnderReflection': WHATEVER THE INPUT: true; the input reads as it did. -/
def fnSlopeOddUnderReflectionSpec : ChangeSpec := { name := "fnSlopeOddUnderReflection", fn := fun _ => fun
  | [d1, d2] => { results := [.lit (.bool true)], args := [d1, d2] }
  | _ => none }
def fnSlopeOddUnderReflectionRow : OpenClaim := { program := "qxb6603164a", sum := "926dbd4b8994e8225c86edc25d255a740ab4b1a8385c1f184c6b161d8d32c824", func := "example.com/ringlet/ringlet/zzlaws_pkg_sim_b1.FnSlopeOddUnderReflection", spec := "fnSlopeOddUnderReflection", recurses := true, apart := false }
def FnSlopeOddUnderReflectionSaid : Prop := fnSlopeOddUnderReflectionRow.holds Try.pinned (OpenSpec.ofChange fnSlopeOddUnderReflectionSpec)

/-- ITS FALSE NEIGHBOUR: 'it returns false'. Refute it at one input. -/
def fnSlopeOddUnderReflectionWrong : ChangeSpec := { name := "fnSlopeOddUnderReflection", fn := fun _ => fun
  | [d1, d2] => { results := [.lit (.bool false)], args := [d1, d2] }
  | _ => none }
def FnSlopeOddUnderReflectionWrongFalsely : Prop := fnSlopeOddUnderReflectionRow.holds Try.pinned (OpenSpec.ofChange fnSlopeOddUnderReflectionWrong)

/-- 'zzlaws_pkg_sim_b1.FnSlopeShiftInvariant': WHATEVER THE INPUT: true; the input reads as it did. -/
def fnSlopeShiftInvariantSpec : ChangeSpec := { name := "fnSlopeShiftInvariant", fn := fun _ => fun
  | [d1, d2, d3, d4] => { results := [.lit (.bool true)], args := [d1, d2, d3, d4] }
  | _ => none }
def fnSlopeShiftInvariantRow : OpenClaim := { program := "qxb6603164a", sum := "926dbd4b8994e8225c86edc25d255a740ab4b1a8385c1f184c6b161d8d32c824", func := "example.com/ringlet/ringlet/zzlaws_pkg_sim_b1.FnSlopeShiftInvariant", spec := "fnSlopeShiftInvariant", recurses := true, apart := false }
def FnSlopeShiftInvariantSaid : Prop := fnSlopeShiftInvariantRow.holds Try.pinned (OpenSpec.ofChange fnSlopeShiftInvariantSpec)

/-- ITS FALSE NEIGHBOUR: 'it returns false'. Refute it at one input. -/
def fnSlopeShiftInvariantWrong : ChangeSpec := { name := "fnSlopeShiftInvariant", fn := fun _ => fun
  | [d1, d2, d3, d4] => { results := [.lit (.bool false)], args := [d1, d2, d3, d4] }
  | _ => none }
def FnSlopeShiftInvariantWrongFalsely : Prop := fnSlopeShiftInvariantRow.holds Try.pinned (OpenSpec.ofChange fnSlopeShiftInvariantWrong)

end Rows
end Go.Proofs.Qxb6603164a
