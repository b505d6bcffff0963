/-
  DERIVED. GIVEN WITH THE SEED: THE CARDS: each row of Qxb6613078aFmtRows.lean that lists a variable, with what it lists TIED to the program's text (the seventh form; the later family's looks); each row that meets fmt, with fmt's text TOLD by the authors' own Lean function (tested against real Go, not proved from fmt's source: count such statements apart). THE CARD IS WHAT COUNTS. Prove the row's statement (the work); the ties are given (Qxb6613078aFmtTie.lean); close each card by the builder's one call (the guide's Derived/Test/ToyasCard.lean, 'card_holds'). Laid BY PROGRAM, IN A SANDBOX (cutbox-door.mjs). By AI agents, Wed Nov 11 2026. No macro, syntax, notation, axiom, sorry.
-/
import Derived.Test.Qxb6613078aFmtRows
import GoSem.ClaimSeven
namespace Go.Proofs.Qxb6613078aFmt
namespace Rows

/-- THE TOLD CARD OF 'zzlaws_root_b1.FnErrorLeavesOutStackAndNestsByPrefix'. -/
def fnErrorLeavesOutStackAndNestsByPrefixCard : Claim7 := { stood := { row := fnErrorLeavesOutStackAndNestsByPrefixRow, standIns := [], harness := (true, "f1dbbc8bd233eb93172789942740e0df1ff2b747480994c9cec249016cbee91b"), looks := false }, told := true, goes := false }
def FnErrorLeavesOutStackAndNestsByPrefixToldSaid : Prop := Claim7.holds Tryf.pinned (.plain (OpenSpec.ofChange fnErrorLeavesOutStackAndNestsByPrefixSpec)) fnErrorLeavesOutStackAndNestsByPrefixCard
/-- ITS FALSE NEIGHBOUR. Refute it at one input. -/
def FnErrorLeavesOutStackAndNestsByPrefixToldWrongFalsely : Prop := Claim7.holds Tryf.pinned (.plain (OpenSpec.ofChange fnErrorLeavesOutStackAndNestsByPrefixWrong)) fnErrorLeavesOutStackAndNestsByPrefixCard
end Rows
end Go.Proofs.Qxb6613078aFmt
