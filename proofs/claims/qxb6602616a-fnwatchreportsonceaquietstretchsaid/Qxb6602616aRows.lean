/-
  No cell of these rows narrows 'for every input' (looked for: loops, veiled, ifaces, maps, wideKeys, modest, calm, conditions, laid).
  DERIVED. THE GIVEN ROWS OF THIS SEAT. 5 by the template 'for every input the law returns true; each argument reads behind the call as it read before'; 0 by the template 'total and deterministic' (their statements: Qxb6602616aTotals.lean).
  GIVEN WITH THE SEED: the statements are not yours to turn. If you find one false, say at which input.
  Laid BY PROGRAM, IN A SANDBOX (cutbox-rows.mjs): the forced cells as the released guide's own fill.sh prints them over the translation 91629be4b5e9332f… (all of the seat's roots in one cut). By AI agents, Wed Nov 11 2026. No macro, syntax, notation, axiom, sorry.
-/
import Derived.Test.Qxb6602616aChecked
import GoSem.Claim
import GoSem.ClaimJoined
import GoSem.ClaimMapViews
import Derived.JoinedTies
import Derived.KernelRfl
namespace Go.Proofs.Qxb6602616a
/- THE CELL 'sum', in the pinned program and in every row, IS THE sha256 OF THE DUMP (.gsa) THAT Qxb6602616aProg.lean LOADS. Nothing in Lean hashes anything: it is a label: what it is worth is what the hold of that sum in a sandbox is worth. -/
noncomputable def Try.pinned : Pinned := { name := "qxb6602616a", sum := "91629be4b5e9332f6589a545711c32dee85454a2123bbb692a595ee2abac2d08", checked := Try.checked }
namespace Rows
def none {H : Type} : Left H := { results := [], args := [] }

/-- 'zzlaws_root_b1.FnWatchStopsAtTheRunThatShouldHaveBroughtTwenty': WHATEVER THE INPUT: true; the input reads as it did. -/
def fnWatchStopsAtTheRunThatShouldHaveBroughtTwentySpec : ChangeSpec := { name := "fnWatchStopsAtTheRunThatShouldHaveBroughtTwenty", fn := fun _ => fun
  | [d1, d2, d3, d4, d5, d6, d7] => { results := [.lit (.bool true)], args := [d1, d2, d3, d4, d5, d6, d7] }
  | _ => none }
def fnWatchStopsAtTheRunThatShouldHaveBroughtTwentyRow : OpenClaim := { program := "qxb6602616a", sum := "91629be4b5e9332f6589a545711c32dee85454a2123bbb692a595ee2abac2d08", func := "example.com/spanwell/spanwell/zzlaws_root_b1.FnWatchStopsAtTheRunThatShouldHaveBroughtTwenty", spec := "fnWatchStopsAtTheRunThatShouldHaveBroughtTwenty", apart := false }
def FnWatchStopsAtTheRunThatShouldHaveBroughtTwentySaid : Prop := fnWatchStopsAtTheRunThatShouldHaveBroughtTwentyRow.holds Try.pinned (OpenSpec.ofChange fnWatchStopsAtTheRunThatShouldHaveBroughtTwentySpec)

/-- ITS FALSE NEIGHBOUR: 'it returns false'. Refute it at one input. -/
def fnWatchStopsAtTheRunThatShouldHaveBroughtTwentyWrong : ChangeSpec := { name := "fnWatchStopsAtTheRunThatShouldHaveBroughtTwenty", fn := fun _ => fun
  | [d1, d2, d3, d4, d5, d6, d7] => { results := [.lit (.bool false)], args := [d1, d2, d3, d4, d5, d6, d7] }
  | _ => none }
def FnWatchStopsAtTheRunThatShouldHaveBroughtTwentyWrongFalsely : Prop := fnWatchStopsAtTheRunThatShouldHaveBroughtTwentyRow.holds Try.pinned (OpenSpec.ofChange fnWatchStopsAtTheRunThatShouldHaveBroughtTwentyWrong)

/-- 'zzlaws_root_b1.FnWatchReportsOnceAQuietStretch': WHATEVER THE INPUT: true; the input reads as it did. -/
def fnWatchReportsOnceAQuietStretchSpec : ChangeSpec := { name := "fnWatchReportsOnceAQuietStretch", fn := fun _ => fun
  | [d1, d2, d3, d4, d5, d6, d7] => { results := [.lit (.bool true)], args := [d1, d2, d3, d4, d5, d6, d7] }
  | _ => none }
def fnWatchReportsOnceAQuietStretchRow : OpenClaim := { program := "qxb6602616a", sum := "91629be4b5e9332f6589a545711c32dee85454a2123bbb692a595ee2abac2d08", func := "example.com/spanwell/spanwell/zzlaws_root_b1.FnWatchReportsOnceAQuietStretch", spec := "fnWatchReportsOnceAQuietStretch", apart := false }
def FnWatchReportsOnceAQuietStretchSaid : Prop := fnWatchReportsOnceAQuietStretchRow.holds Try.pinned (OpenSpec.ofChange fnWatchReportsOnceAQuietStretchSpec)

/-- ITS FALSE NEIGHBOUR: 'it returns false'. Refute it at one input. -/
def fnWatchReportsOnceAQuietStretchWrong : ChangeSpec := { name := "fnWatchReportsOnceAQuietStretch", fn := fun _ => fun
  | [d1, d2, d3, d4, d5, d6, d7] => { results := [.lit (.bool false)], args := [d1, d2, d3, d4, d5, d6, d7] }
  | _ => none }
def FnWatchReportsOnceAQuietStretchWrongFalsely : Prop := fnWatchReportsOnceAQuietStretchRow.holds Try.pinned (OpenSpec.ofChange fnWatchReportsOnceAQuietStretchWrong)

/-- 'zzlaws_root_b1.FnShareFallsWithFirstsAndRisesWithCopies': WHATEVER THE INPUT: true; the input reads as it did. -/
def fnShareFallsWithFirstsAndRisesWithCopiesSpec : ChangeSpec := { name := "fnShareFallsWithFirstsAndRisesWithCopies", fn := fun _ => fun
  | [d1, d2, d3, d4, d5, d6, d7, d8] => { results := [.lit (.bool true)], args := [d1, d2, d3, d4, d5, d6, d7, d8] }
  | _ => none }
def fnShareFallsWithFirstsAndRisesWithCopiesRow : OpenClaim := { program := "qxb6602616a", sum := "91629be4b5e9332f6589a545711c32dee85454a2123bbb692a595ee2abac2d08", func := "example.com/spanwell/spanwell/zzlaws_root_b1.FnShareFallsWithFirstsAndRisesWithCopies", spec := "fnShareFallsWithFirstsAndRisesWithCopies", unfollowed := true, recurses := true, apart := false }
def FnShareFallsWithFirstsAndRisesWithCopiesSaid : Prop := fnShareFallsWithFirstsAndRisesWithCopiesRow.holds Try.pinned (OpenSpec.ofChange fnShareFallsWithFirstsAndRisesWithCopiesSpec)

/-- ITS FALSE NEIGHBOUR: 'it returns false'. Refute it at one input. -/
def fnShareFallsWithFirstsAndRisesWithCopiesWrong : ChangeSpec := { name := "fnShareFallsWithFirstsAndRisesWithCopies", fn := fun _ => fun
  | [d1, d2, d3, d4, d5, d6, d7, d8] => { results := [.lit (.bool false)], args := [d1, d2, d3, d4, d5, d6, d7, d8] }
  | _ => none }
def FnShareFallsWithFirstsAndRisesWithCopiesWrongFalsely : Prop := fnShareFallsWithFirstsAndRisesWithCopiesRow.holds Try.pinned (OpenSpec.ofChange fnShareFallsWithFirstsAndRisesWithCopiesWrong)

/-- 'zzlaws_root_b1.FnSmoothAtSteadyCountsMeasuresTheCountsRatio': WHATEVER THE INPUT: true; the input reads as it did. -/
def fnSmoothAtSteadyCountsMeasuresTheCountsRatioSpec : ChangeSpec := { name := "fnSmoothAtSteadyCountsMeasuresTheCountsRatio", fn := fun _ => fun
  | [d1, d2, d3, d4, d5, d6, d7] => { results := [.lit (.bool true)], args := [d1, d2, d3, d4, d5, d6, d7] }
  | _ => none }
def fnSmoothAtSteadyCountsMeasuresTheCountsRatioRow : OpenClaim := { program := "qxb6602616a", sum := "91629be4b5e9332f6589a545711c32dee85454a2123bbb692a595ee2abac2d08", func := "example.com/spanwell/spanwell/zzlaws_root_b1.FnSmoothAtSteadyCountsMeasuresTheCountsRatio", spec := "fnSmoothAtSteadyCountsMeasuresTheCountsRatio", apart := false }
def FnSmoothAtSteadyCountsMeasuresTheCountsRatioSaid : Prop := fnSmoothAtSteadyCountsMeasuresTheCountsRatioRow.holds Try.pinned (OpenSpec.ofChange fnSmoothAtSteadyCountsMeasuresTheCountsRatioSpec)

/-- ITS FALSE NEIGHBOUR: 'it returns false'. Refute it at one input. -/
def fnSmoothAtSteadyCountsMeasuresTheCountsRatioWrong : ChangeSpec := { name := "fnSmoothAtSteadyCountsMeasuresTheCountsRatio", fn := fun _ => fun
  | [d1, d2, d3, d4, d5, d6, d7] => { results := [.lit (.bool false)], args := [d1, d2, d3, d4, d5, d6, d7] }
  | _ => none }
def FnSmoothAtSteadyCountsMeasuresTheCountsRatioWrongFalsely : Prop := fnSmoothAtSteadyCountsMeasuresTheCountsRatioRow.holds Try.pinned (OpenSpec.ofChange fnSmoothAtSteadyCountsMeasuresTheCountsRatioWrong)

/-- 'zzlaws_root_b1.FnSmoothResetsCountsAndBoundsTheMeans': WHATEVER THE INPUT: true; the input reads as it did. -/
def fnSmoothResetsCountsAndBoundsTheMeansSpec : ChangeSpec := { name := "fnSmoothResetsCountsAndBoundsTheMeans", fn := fun _ => fun
  | [d1, d2, d3, d4, d5, d6, d7] => { results := [.lit (.bool true)], args := [d1, d2, d3, d4, d5, d6, d7] }
  | _ => none }
def fnSmoothResetsCountsAndBoundsTheMeansRow : OpenClaim := { program := "qxb6602616a", sum := "91629be4b5e9332f6589a545711c32dee85454a2123bbb692a595ee2abac2d08", func := "example.com/spanwell/spanwell/zzlaws_root_b1.FnSmoothResetsCountsAndBoundsTheMeans", spec := "fnSmoothResetsCountsAndBoundsTheMeans", apart := false }
def FnSmoothResetsCountsAndBoundsTheMeansSaid : Prop := fnSmoothResetsCountsAndBoundsTheMeansRow.holds Try.pinned (OpenSpec.ofChange fnSmoothResetsCountsAndBoundsTheMeansSpec)

/-- ITS FALSE NEIGHBOUR: 'it returns false'. Refute it at one input. -/
def fnSmoothResetsCountsAndBoundsTheMeansWrong : ChangeSpec := { name := "fnSmoothResetsCountsAndBoundsTheMeans", fn := fun _ => fun
  | [d1, d2, d3, d4, d5, d6, d7] => { results := [.lit (.bool false)], args := [d1, d2, d3, d4, d5, d6, d7] }
  | _ => none }
def FnSmoothResetsCountsAndBoundsTheMeansWrongFalsely : Prop := fnSmoothResetsCountsAndBoundsTheMeansRow.holds Try.pinned (OpenSpec.ofChange fnSmoothResetsCountsAndBoundsTheMeansWrong)

end Rows
end Go.Proofs.Qxb6602616a
