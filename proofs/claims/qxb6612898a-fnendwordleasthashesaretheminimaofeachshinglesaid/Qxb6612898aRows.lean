/-
  No cell of these rows narrows 'for every input' (looked for: loops, veiled, ifaces, maps, wideKeys, modest, calm, conditions, laid).
  DERIVED. THE GIVEN ROWS OF THIS SEAT. 3 by the template 'for every input the law returns true; each argument reads behind the call as it read before'; 0 by the template 'total and deterministic' (their statements: Qxb6612898aTotals.lean).
  GIVEN WITH THE SEED: the statements are not yours to turn. If you find one false, say at which input.
  Laid BY PROGRAM, IN A SANDBOX (cutbox-rows.mjs): the forced cells as the released guide's own fill.sh prints them over the translation 782b8f226e0ce408… (all of the seat's roots in one cut). By AI agents, Wed Nov 11 2026. No macro, syntax, notation, axiom, sorry.
-/
import Derived.Test.Qxb6612898aChecked
import GoSem.Claim
import GoSem.ClaimJoined
import GoSem.ClaimMapViews
import Derived.JoinedTies
import Derived.KernelRfl
namespace Go.Proofs.Qxb6612898a
/- THE CELL 'sum', in the pinned program and in every row, IS THE sha256 OF THE DUMP (.gsa) THAT Qxb6612898aProg.lean LOADS. Nothing in Lean hashes anything: it is a label: what it is worth is what the hold of that sum in a sandbox is worth. -/
noncomputable def Try.pinned : Pinned := { name := "qxb6612898a", sum := "782b8f226e0ce4084df868e9aca1345f1d69f8b77d1d5bf2a7ab4f467c2a5a04", checked := Try.checked }
namespace Rows
def none {H : Type} : Left H := { results := [], args := [] }

/-- 'zzlaws_root_b1.FnSwapScriptMovesEachMatchWhereItsTrackSays': WHATEVER THE INPUT: true; the input reads as it did. -/
def fnSwapScriptMovesEachMatchWhereItsTrackSaysSpec : ChangeSpec := { name := "fnSwapScriptMovesEachMatchWhereItsTrackSays", fn := fun _ => fun
  | [d1, d2, d3] => { results := [.lit (.bool true)], args := [d1, d2, d3] }
  | _ => none }
def fnSwapScriptMovesEachMatchWhereItsTrackSaysRow : OpenClaim := { program := "qxb6612898a", sum := "782b8f226e0ce4084df868e9aca1345f1d69f8b77d1d5bf2a7ab4f467c2a5a04", func := "example.com/orthant/orthant/zzlaws_root_b1.FnSwapScriptMovesEachMatchWhereItsTrackSays", spec := "fnSwapScriptMovesEachMatchWhereItsTrackSays", apart := false }
def FnSwapScriptMovesEachMatchWhereItsTrackSaysSaid : Prop := fnSwapScriptMovesEachMatchWhereItsTrackSaysRow.holds Try.pinned (OpenSpec.ofChange fnSwapScriptMovesEachMatchWhereItsTrackSaysSpec)

/-- ITS FALSE NEIGHBOUR: 'it returns false'. Refute it at one input. -/
def fnSwapScriptMovesEachMatchWhereItsTrackSaysWrong : ChangeSpec := { name := "fnSwapScriptMovesEachMatchWhereItsTrackSays", fn := fun _ => fun
  | [d1, d2, d3] => { results := [.lit (.bool false)], args := [d1, d2, d3] }
  | _ => none }
def FnSwapScriptMovesEachMatchWhereItsTrackSaysWrongFalsely : Prop := fnSwapScriptMovesEachMatchWhereItsTrackSaysRow.holds Try.pinned (OpenSpec.ofChange fnSwapScriptMovesEachMatchWhereItsTrackSaysWrong)

/-- 'zzlaws_root_b1.FnEndWordVotesEachShingleOnce': WHATEVER THE INPUT: true; the input reads as it did. -/
def fnEndWordVotesEachShingleOnceSpec : ChangeSpec := { name := "fnEndWordVotesEachShingleOnce", fn := fun _ => fun
  | [d1, d2, d3, d4, d5] => { results := [.lit (.bool true)], args := [d1, d2, d3, d4, d5] }
  | _ => none }
def fnEndWordVotesEachShingleOnceRow : OpenClaim := { program := "qxb6612898a", sum := "782b8f226e0ce4084df868e9aca1345f1d69f8b77d1d5bf2a7ab4f467c2a5a04", func := "example.com/orthant/orthant/zzlaws_root_b1.FnEndWordVotesEachShingleOnce", spec := "fnEndWordVotesEachShingleOnce", inPlace := ["math.Float64bits", "math.Float64frombits"], named := ["encoding/binary.LittleEndian"], apart := false }
def FnEndWordVotesEachShingleOnceSaid : Prop := fnEndWordVotesEachShingleOnceRow.holds Try.pinned (OpenSpec.ofChange fnEndWordVotesEachShingleOnceSpec)

/-- ITS FALSE NEIGHBOUR: 'it returns false'. Refute it at one input. -/
def fnEndWordVotesEachShingleOnceWrong : ChangeSpec := { name := "fnEndWordVotesEachShingleOnce", fn := fun _ => fun
  | [d1, d2, d3, d4, d5] => { results := [.lit (.bool false)], args := [d1, d2, d3, d4, d5] }
  | _ => none }
def FnEndWordVotesEachShingleOnceWrongFalsely : Prop := fnEndWordVotesEachShingleOnceRow.holds Try.pinned (OpenSpec.ofChange fnEndWordVotesEachShingleOnceWrong)

/-- 'zzlaws_root_b1.FnEndWordLeastHashesAreTheMinimaOfEachShingle': WHATEVER THE INPUT: true; the input reads as it did. -/
def fnEndWordLeastHashesAreTheMinimaOfEachShingleSpec : ChangeSpec := { name := "fnEndWordLeastHashesAreTheMinimaOfEachShingle", fn := fun _ => fun
  | [d1, d2, d3, d4, d5, d6] => { results := [.lit (.bool true)], args := [d1, d2, d3, d4, d5, d6] }
  | _ => none }
def fnEndWordLeastHashesAreTheMinimaOfEachShingleRow : OpenClaim := { program := "qxb6612898a", sum := "782b8f226e0ce4084df868e9aca1345f1d69f8b77d1d5bf2a7ab4f467c2a5a04", func := "example.com/orthant/orthant/zzlaws_root_b1.FnEndWordLeastHashesAreTheMinimaOfEachShingle", spec := "fnEndWordLeastHashesAreTheMinimaOfEachShingle", inPlace := ["math.Float64bits", "math.Float64frombits"], named := ["encoding/binary.LittleEndian"], apart := false }
def FnEndWordLeastHashesAreTheMinimaOfEachShingleSaid : Prop := fnEndWordLeastHashesAreTheMinimaOfEachShingleRow.holds Try.pinned (OpenSpec.ofChange fnEndWordLeastHashesAreTheMinimaOfEachShingleSpec)

/-- ITS FALSE NEIGHBOUR: 'it returns false'. Refute it at one input. -/
def fnEndWordLeastHashesAreTheMinimaOfEachShingleWrong : ChangeSpec := { name := "fnEndWordLeastHashesAreTheMinimaOfEachShingle", fn := fun _ => fun
  | [d1, d2, d3, d4, d5, d6] => { results := [.lit (.bool false)], args := [d1, d2, d3, d4, d5, d6] }
  | _ => none }
def FnEndWordLeastHashesAreTheMinimaOfEachShingleWrongFalsely : Prop := fnEndWordLeastHashesAreTheMinimaOfEachShingleRow.holds Try.pinned (OpenSpec.ofChange fnEndWordLeastHashesAreTheMinimaOfEachShingleWrong)

end Rows
end Go.Proofs.Qxb6612898a
