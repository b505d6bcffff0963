/-
  No cell of these rows narrows 'for every input' (looked for: loops, veiled, ifaces, maps, wideKeys, modest, calm, conditions, laid).
  DERIVED. THE GIVEN ROWS OF THIS SEAT. 1 by the template 'for every input the law returns true; each argument reads behind the call as it read before'; 0 by the template 'total and deterministic' (their statements: Qxb6613078aFmtTotals.lean).
  GIVEN WITH THE SEED: the statements are not yours to turn. If you find one false, say at which input.
  Laid BY PROGRAM, IN A SANDBOX (cutbox-rows.mjs): the forced cells as the released guide's own fill.sh prints them over the translation 309f8b8871653451… (all of the seat's roots in one cut). By AI agents, Wed Nov 11 2026. No macro, syntax, notation, axiom, sorry.
-/
import Derived.Test.Qxb6613078aFmtChecked
import GoSem.Claim
import GoSem.ClaimJoined
import GoSem.ClaimMapViews
import Derived.JoinedTies
import Derived.KernelRfl
namespace Go.Proofs.Qxb6613078aFmt
/- THE CELL 'sum', in the pinned program and in every row, IS THE sha256 OF THE DUMP (.gsa) THAT Qxb6613078aFmtProg.lean LOADS. Nothing in Lean hashes anything: it is a label: what it is worth is what the hold of that sum in a sandbox is worth. -/
noncomputable def Tryf.pinned : Pinned := { name := "qxb6613078afmt", sum := "309f8b8871653451c283a9990e882cb425f21ef596f10170de773dbb0be63388", checked := Tryf.checked }
namespace Rows
def none {H : Type} : Left H := { results := [], args := [] }

/-- 'zzlaws_root_b1.FnErrorLeavesOutStackAndNestsByPrefix': WHATEVER THE INPUT: true; the input reads as it did. -/
def fnErrorLeavesOutStackAndNestsByPrefixSpec : ChangeSpec := { name := "fnErrorLeavesOutStackAndNestsByPrefix", fn := fun _ => fun
  | [d1, d2] => { results := [.lit (.bool true)], args := [d1, d2] }
  | _ => none }
def fnErrorLeavesOutStackAndNestsByPrefixRow : OpenClaim := { program := "qxb6613078afmt", sum := "309f8b8871653451c283a9990e882cb425f21ef596f10170de773dbb0be63388", func := "example.com/herdgate/herdgate/zzlaws_root_b1.FnErrorLeavesOutStackAndNestsByPrefix", spec := "fnErrorLeavesOutStackAndNestsByPrefix", stops := ["fmt.Sprintf, its operands' methods called"], inPlace := ["fmt.Sprintf"], unfollowed := true, recurses := true, apart := false }
/-- NO THEOREM (fmt's text is open here; it may be false): for the released tool's asking of the row's closed facts alone. THE STATEMENT IS 'FnErrorLeavesOutStackAndNestsByPrefixToldSaid' (Qxb6613078aFmtCards.lean). -/
def FnErrorLeavesOutStackAndNestsByPrefixFormAsk : Prop := fnErrorLeavesOutStackAndNestsByPrefixRow.holds Tryf.pinned (OpenSpec.ofChange fnErrorLeavesOutStackAndNestsByPrefixSpec)

/-- ITS FALSE NEIGHBOUR: 'it returns false'. Refute it at one input. -/
def fnErrorLeavesOutStackAndNestsByPrefixWrong : ChangeSpec := { name := "fnErrorLeavesOutStackAndNestsByPrefix", fn := fun _ => fun
  | [d1, d2] => { results := [.lit (.bool false)], args := [d1, d2] }
  | _ => none }
def FnErrorLeavesOutStackAndNestsByPrefixWrongFormAsk : Prop := fnErrorLeavesOutStackAndNestsByPrefixRow.holds Tryf.pinned (OpenSpec.ofChange fnErrorLeavesOutStackAndNestsByPrefixWrong)

end Rows
end Go.Proofs.Qxb6613078aFmt
