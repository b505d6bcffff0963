/-
  No cell of these rows narrows 'for every input' (looked for: loops, veiled, ifaces, maps, wideKeys, modest, calm, conditions, laid).
  DERIVED. THE GIVEN ROWS OF THIS SEAT. 4 by the template 'for every input the law returns true; each argument reads behind the call as it read before'; 0 by the template 'total and deterministic' (their statements: Qxb6612981aTotals.lean).
  GIVEN WITH THE SEED: the statements are not yours to turn. If you find one false, say at which input.
  Laid BY PROGRAM, IN A SANDBOX (cutbox-rows.mjs): the forced cells as the released guide's own fill.sh prints them over the translation 96c1d1314a1bae84… (all of the seat's roots in one cut). By AI agents, Wed Nov 11 2026. No macro, syntax, notation, axiom, sorry.
-/
import Derived.Test.Qxb6612981aChecked
import GoSem.Claim
import GoSem.ClaimJoined
import GoSem.ClaimMapViews
import Derived.JoinedTies
import Derived.KernelRfl
namespace Go.Proofs.Qxb6612981a
/- THE CELL 'sum', in the pinned program and in every row, IS THE sha256 OF THE DUMP (.gsa) THAT Qxb6612981aProg.lean LOADS. Nothing in Lean hashes anything: it is a label: what it is worth is what the hold of that sum in a sandbox is worth. -/
noncomputable def Try.pinned : Pinned := { name := "qxb6612981a", sum := "96c1d1314a1bae844249e116ffbf5155cb365703ef61bec0860fdafc5e812810", checked := Try.checked }
namespace Rows
def none {H : Type} : Left H := { results := [], args := [] }

/-- 'zzlaws_root_b1.FnCompareFindingsAntisymmetricZeroAtSamePlace': WHATEVER THE INPUT: true; the input reads as it did. -/
def fnCompareFindingsAntisymmetricZeroAtSamePlaceSpec : ChangeSpec := { name := "fnCompareFindingsAntisymmetricZeroAtSamePlace", fn := fun _ => fun
  | [d1, d2, d3, d4, d5, d6, d7, d8] => { results := [.lit (.bool true)], args := [d1, d2, d3, d4, d5, d6, d7, d8] }
  | _ => none }
def fnCompareFindingsAntisymmetricZeroAtSamePlaceRow : OpenClaim := { program := "qxb6612981a", sum := "96c1d1314a1bae844249e116ffbf5155cb365703ef61bec0860fdafc5e812810", func := "example.com/rolewarden/rolewarden/zzlaws_root_b1.FnCompareFindingsAntisymmetricZeroAtSamePlace", spec := "fnCompareFindingsAntisymmetricZeroAtSamePlace", inPlace := ["internal/bytealg.abigen_runtime_cmpstring"], apart := false }
def FnCompareFindingsAntisymmetricZeroAtSamePlaceSaid : Prop := fnCompareFindingsAntisymmetricZeroAtSamePlaceRow.holds Try.pinned (OpenSpec.ofChange fnCompareFindingsAntisymmetricZeroAtSamePlaceSpec)

/-- ITS FALSE NEIGHBOUR: 'it returns false'. Refute it at one input. -/
def fnCompareFindingsAntisymmetricZeroAtSamePlaceWrong : ChangeSpec := { name := "fnCompareFindingsAntisymmetricZeroAtSamePlace", fn := fun _ => fun
  | [d1, d2, d3, d4, d5, d6, d7, d8] => { results := [.lit (.bool false)], args := [d1, d2, d3, d4, d5, d6, d7, d8] }
  | _ => none }
def FnCompareFindingsAntisymmetricZeroAtSamePlaceWrongFalsely : Prop := fnCompareFindingsAntisymmetricZeroAtSamePlaceRow.holds Try.pinned (OpenSpec.ofChange fnCompareFindingsAntisymmetricZeroAtSamePlaceWrong)

/-- 'zzlaws_root_b1.FnCompareFindingsFileThenLineThenWeight': WHATEVER THE INPUT: true; the input reads as it did. -/
def fnCompareFindingsFileThenLineThenWeightSpec : ChangeSpec := { name := "fnCompareFindingsFileThenLineThenWeight", fn := fun _ => fun
  | [d1, d2, d3, d4, d5, d6, d7, d8, d9] => { results := [.lit (.bool true)], args := [d1, d2, d3, d4, d5, d6, d7, d8, d9] }
  | _ => none }
def fnCompareFindingsFileThenLineThenWeightRow : OpenClaim := { program := "qxb6612981a", sum := "96c1d1314a1bae844249e116ffbf5155cb365703ef61bec0860fdafc5e812810", func := "example.com/rolewarden/rolewarden/zzlaws_root_b1.FnCompareFindingsFileThenLineThenWeight", spec := "fnCompareFindingsFileThenLineThenWeight", inPlace := ["internal/bytealg.abigen_runtime_cmpstring"], apart := false }
def FnCompareFindingsFileThenLineThenWeightSaid : Prop := fnCompareFindingsFileThenLineThenWeightRow.holds Try.pinned (OpenSpec.ofChange fnCompareFindingsFileThenLineThenWeightSpec)

/-- ITS FALSE NEIGHBOUR: 'it returns false'. Refute it at one input. -/
def fnCompareFindingsFileThenLineThenWeightWrong : ChangeSpec := { name := "fnCompareFindingsFileThenLineThenWeight", fn := fun _ => fun
  | [d1, d2, d3, d4, d5, d6, d7, d8, d9] => { results := [.lit (.bool false)], args := [d1, d2, d3, d4, d5, d6, d7, d8, d9] }
  | _ => none }
def FnCompareFindingsFileThenLineThenWeightWrongFalsely : Prop := fnCompareFindingsFileThenLineThenWeightRow.holds Try.pinned (OpenSpec.ofChange fnCompareFindingsFileThenLineThenWeightWrong)

/-- 'zzlaws_root_b1.FnLineAtStepsAndCuts': WHATEVER THE INPUT: true; the input reads as it did. -/
def fnLineAtStepsAndCutsSpec : ChangeSpec := { name := "fnLineAtStepsAndCuts", fn := fun _ => fun
  | [d1, d2, d3] => { results := [.lit (.bool true)], args := [d1, d2, d3] }
  | _ => none }
def fnLineAtStepsAndCutsRow : OpenClaim := { program := "qxb6612981a", sum := "96c1d1314a1bae844249e116ffbf5155cb365703ef61bec0860fdafc5e812810", func := "example.com/rolewarden/rolewarden/zzlaws_root_b1.FnLineAtStepsAndCuts", spec := "fnLineAtStepsAndCuts", inPlace := ["internal/bytealg.Count", "internal/bytealg.IndexByte", "internal/bytealg.Index"], named := ["internal/bytealg.MaxLen"], apart := false }
def FnLineAtStepsAndCutsSaid : Prop := fnLineAtStepsAndCutsRow.holds Try.pinned (OpenSpec.ofChange fnLineAtStepsAndCutsSpec)

/-- ITS FALSE NEIGHBOUR: 'it returns false'. Refute it at one input. -/
def fnLineAtStepsAndCutsWrong : ChangeSpec := { name := "fnLineAtStepsAndCuts", fn := fun _ => fun
  | [d1, d2, d3] => { results := [.lit (.bool false)], args := [d1, d2, d3] }
  | _ => none }
def FnLineAtStepsAndCutsWrongFalsely : Prop := fnLineAtStepsAndCutsRow.holds Try.pinned (OpenSpec.ofChange fnLineAtStepsAndCutsWrong)

/-- 'zzlaws_root_b1.FnLineAtRisesExactlyAtLineBreaks': WHATEVER THE INPUT: true; the input reads as it did. -/
def fnLineAtRisesExactlyAtLineBreaksSpec : ChangeSpec := { name := "fnLineAtRisesExactlyAtLineBreaks", fn := fun _ => fun
  | [d1, d2, d3] => { results := [.lit (.bool true)], args := [d1, d2, d3] }
  | _ => none }
def fnLineAtRisesExactlyAtLineBreaksRow : OpenClaim := { program := "qxb6612981a", sum := "96c1d1314a1bae844249e116ffbf5155cb365703ef61bec0860fdafc5e812810", func := "example.com/rolewarden/rolewarden/zzlaws_root_b1.FnLineAtRisesExactlyAtLineBreaks", spec := "fnLineAtRisesExactlyAtLineBreaks", inPlace := ["internal/bytealg.Count", "internal/bytealg.IndexByte", "internal/bytealg.Index"], named := ["internal/bytealg.MaxLen"], apart := false }
def FnLineAtRisesExactlyAtLineBreaksSaid : Prop := fnLineAtRisesExactlyAtLineBreaksRow.holds Try.pinned (OpenSpec.ofChange fnLineAtRisesExactlyAtLineBreaksSpec)

/-- ITS FALSE NEIGHBOUR: 'it returns false'. Refute it at one input. -/
def fnLineAtRisesExactlyAtLineBreaksWrong : ChangeSpec := { name := "fnLineAtRisesExactlyAtLineBreaks", fn := fun _ => fun
  | [d1, d2, d3] => { results := [.lit (.bool false)], args := [d1, d2, d3] }
  | _ => none }
def FnLineAtRisesExactlyAtLineBreaksWrongFalsely : Prop := fnLineAtRisesExactlyAtLineBreaksRow.holds Try.pinned (OpenSpec.ofChange fnLineAtRisesExactlyAtLineBreaksWrong)

end Rows
end Go.Proofs.Qxb6612981a
