/-
  No cell of these rows narrows 'for every input' (looked for: loops, veiled, ifaces, maps, wideKeys, modest, calm, conditions, laid).
  DERIVED. THE GIVEN ROWS OF THIS SEAT. 4 by the template 'for every input the law returns true; each argument reads behind the call as it read before'; 0 by the template 'total and deterministic' (their statements: Qxb6612939aTotals.lean).
  GIVEN WITH THE SEED: the statements are not yours to turn. If you find one false, say at which input.
  Laid BY PROGRAM, IN A SANDBOX (cutbox-rows.mjs): the forced cells as the released guide's own fill.sh prints them over the translation 0e92cb69a96d8307… (all of the seat's roots in one cut). By AI agents, Wed Nov 11 2026. No macro, syntax, notation, axiom, sorry.
-/
import Derived.Test.Qxb6612939aChecked
import GoSem.Claim
import GoSem.ClaimJoined
import GoSem.ClaimMapViews
import Derived.JoinedTies
import Derived.KernelRfl
namespace Go.Proofs.Qxb6612939a
/- THE CELL 'sum', in the pinned program and in every row, IS THE sha256 OF THE DUMP (.gsa) THAT Qxb6612939aProg.lean LOADS. Nothing in Lean hashes anything: it is a label: what it is worth is what the hold of that sum in a sandbox is worth. -/
noncomputable def Try.pinned : Pinned := { name := "qxb6612939a", sum := "0e92cb69a96d8307125b420ddad9ebc82d3d3f7894e148077dc178a6778e490b", checked := Try.checked }
namespace Rows
def none {H : Type} : Left H := { results := [], args := [] }

/-- 'zzlaws_internal_catalog_b1.FnWithoutInTwoSteps': WHATEVER THE INPUT: true; the input reads as it did. -/
def fnWithoutInTwoStepsSpec : ChangeSpec := { name := "fnWithoutInTwoSteps", fn := fun _ => fun
  | [d1, d2, d3, d4] => { results := [.lit (.bool true)], args := [d1, d2, d3, d4] }
  | _ => none }
def fnWithoutInTwoStepsRow : OpenClaim := { program := "qxb6612939a", sum := "0e92cb69a96d8307125b420ddad9ebc82d3d3f7894e148077dc178a6778e490b", func := "example.com/bellwether/bellwether/zzlaws_internal_catalog_b1.FnWithoutInTwoSteps", spec := "fnWithoutInTwoSteps", unfollowed := true, recurses := true, apart := false }
def FnWithoutInTwoStepsSaid : Prop := fnWithoutInTwoStepsRow.holds Try.pinned (OpenSpec.ofChange fnWithoutInTwoStepsSpec)

/-- ITS FALSE NEIGHBOUR: 'it returns false'. Refute it at one input. -/
def fnWithoutInTwoStepsWrong : ChangeSpec := { name := "fnWithoutInTwoSteps", fn := fun _ => fun
  | [d1, d2, d3, d4] => { results := [.lit (.bool false)], args := [d1, d2, d3, d4] }
  | _ => none }
def FnWithoutInTwoStepsWrongFalsely : Prop := fnWithoutInTwoStepsRow.holds Try.pinned (OpenSpec.ofChange fnWithoutInTwoStepsWrong)

/-- 'zzlaws_internal_catalog_b1.FnWithoutIdempotent': WHATEVER THE INPUT: true; the input reads as it did. -/
def fnWithoutIdempotentSpec : ChangeSpec := { name := "fnWithoutIdempotent", fn := fun _ => fun
  | [d1, d2, d3] => { results := [.lit (.bool true)], args := [d1, d2, d3] }
  | _ => none }
def fnWithoutIdempotentRow : OpenClaim := { program := "qxb6612939a", sum := "0e92cb69a96d8307125b420ddad9ebc82d3d3f7894e148077dc178a6778e490b", func := "example.com/bellwether/bellwether/zzlaws_internal_catalog_b1.FnWithoutIdempotent", spec := "fnWithoutIdempotent", unfollowed := true, recurses := true, apart := false }
def FnWithoutIdempotentSaid : Prop := fnWithoutIdempotentRow.holds Try.pinned (OpenSpec.ofChange fnWithoutIdempotentSpec)

/-- ITS FALSE NEIGHBOUR: 'it returns false'. Refute it at one input. -/
def fnWithoutIdempotentWrong : ChangeSpec := { name := "fnWithoutIdempotent", fn := fun _ => fun
  | [d1, d2, d3] => { results := [.lit (.bool false)], args := [d1, d2, d3] }
  | _ => none }
def FnWithoutIdempotentWrongFalsely : Prop := fnWithoutIdempotentRow.holds Try.pinned (OpenSpec.ofChange fnWithoutIdempotentWrong)

/-- 'zzlaws_internal_catalog_b1.FnNewSourcePlacementCut': WHATEVER THE INPUT: true; the input reads as it did. -/
def fnNewSourcePlacementCutSpec : ChangeSpec := { name := "fnNewSourcePlacementCut", fn := fun _ => fun
  | [d1, d2, d3, d4, d5, d6, d7, d8, d9] => { results := [.lit (.bool true)], args := [d1, d2, d3, d4, d5, d6, d7, d8, d9] }
  | _ => none }
def fnNewSourcePlacementCutRow : OpenClaim := { program := "qxb6612939a", sum := "0e92cb69a96d8307125b420ddad9ebc82d3d3f7894e148077dc178a6778e490b", func := "example.com/bellwether/bellwether/zzlaws_internal_catalog_b1.FnNewSourcePlacementCut", spec := "fnNewSourcePlacementCut", unfollowed := true, recurses := true, apart := false }
def FnNewSourcePlacementCutSaid : Prop := fnNewSourcePlacementCutRow.holds Try.pinned (OpenSpec.ofChange fnNewSourcePlacementCutSpec)

/-- ITS FALSE NEIGHBOUR: 'it returns false'. Refute it at one input. -/
def fnNewSourcePlacementCutWrong : ChangeSpec := { name := "fnNewSourcePlacementCut", fn := fun _ => fun
  | [d1, d2, d3, d4, d5, d6, d7, d8, d9] => { results := [.lit (.bool false)], args := [d1, d2, d3, d4, d5, d6, d7, d8, d9] }
  | _ => none }
def FnNewSourcePlacementCutWrongFalsely : Prop := fnNewSourcePlacementCutRow.holds Try.pinned (OpenSpec.ofChange fnNewSourcePlacementCutWrong)

/-- 'zzlaws_internal_catalog_b1.FnNewSourcePlacementOneMoreAsked': WHATEVER THE INPUT: true; the input reads as it did. -/
def fnNewSourcePlacementOneMoreAskedSpec : ChangeSpec := { name := "fnNewSourcePlacementOneMoreAsked", fn := fun _ => fun
  | [d1, d2, d3, d4, d5, d6, d7, d8] => { results := [.lit (.bool true)], args := [d1, d2, d3, d4, d5, d6, d7, d8] }
  | _ => none }
def fnNewSourcePlacementOneMoreAskedRow : OpenClaim := { program := "qxb6612939a", sum := "0e92cb69a96d8307125b420ddad9ebc82d3d3f7894e148077dc178a6778e490b", func := "example.com/bellwether/bellwether/zzlaws_internal_catalog_b1.FnNewSourcePlacementOneMoreAsked", spec := "fnNewSourcePlacementOneMoreAsked", unfollowed := true, recurses := true, apart := false }
def FnNewSourcePlacementOneMoreAskedSaid : Prop := fnNewSourcePlacementOneMoreAskedRow.holds Try.pinned (OpenSpec.ofChange fnNewSourcePlacementOneMoreAskedSpec)

/-- ITS FALSE NEIGHBOUR: 'it returns false'. Refute it at one input. -/
def fnNewSourcePlacementOneMoreAskedWrong : ChangeSpec := { name := "fnNewSourcePlacementOneMoreAsked", fn := fun _ => fun
  | [d1, d2, d3, d4, d5, d6, d7, d8] => { results := [.lit (.bool false)], args := [d1, d2, d3, d4, d5, d6, d7, d8] }
  | _ => none }
def FnNewSourcePlacementOneMoreAskedWrongFalsely : Prop := fnNewSourcePlacementOneMoreAskedRow.holds Try.pinned (OpenSpec.ofChange fnNewSourcePlacementOneMoreAskedWrong)

end Rows
end Go.Proofs.Qxb6612939a
