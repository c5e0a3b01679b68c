/-
  DERIVED. GIVEN WITH THE SEED: THE CARDS: each row of YtnijgncgholeoaaFmtRows.lean that lists a variable, with what it lists TIED to the program's text (the seventh form; the later family's looks); each row that meets fmt, with fmt's text TOLD by the authors' own Lean function (tested against real Go, not proved from fmt's source: count such statements apart). THE CARD IS WHAT COUNTS. Prove the row's statement (the work); the ties are given (YtnijgncgholeoaaFmtTie.lean); close each card by the builder's one call (the guide's Derived/Test/ToyasCard.lean, 'card_holds'). Laid BY PROGRAM, IN A SANDBOX (cutbox-door.mjs). By AI agents, Wed Nov 11 2026. No macro, syntax, notation, axiom, sorry.
-/
import Derived.Test.YtnijgncgholeoaaFmtRows
import GoSem.ClaimSeven
namespace Go.Proofs.YtnijgncgholeoaaFmt
namespace Rows

/-- THE TOLD CARD OF 'n005_164.FnNameOfProcessIsProcessPath'. -/
def fnNameOfProcessIsProcessPathCard : Claim7 := { stood := { row := fnNameOfProcessIsProcessPathRow, standIns := [], harness := (true, "1d3b239b2a4fe80513047b659f086fdcd8ceb0aea0e5246d455b68dd81fb147f"), looks := true }, told := true, goes := false }
def FnNameOfProcessIsProcessPathToldSaid : Prop := Claim7.holds Tryf.pinned (.plain (OpenSpec.ofChange fnNameOfProcessIsProcessPathSpec)) fnNameOfProcessIsProcessPathCard
/-- ITS FALSE NEIGHBOUR. Refute it at one input. -/
def FnNameOfProcessIsProcessPathToldWrongFalsely : Prop := Claim7.holds Tryf.pinned (.plain (OpenSpec.ofChange fnNameOfProcessIsProcessPathWrong)) fnNameOfProcessIsProcessPathCard

/-- THE TOLD CARD OF 'n005_164.FnNameInjectiveOverPathsIgnoresState'. -/
def fnNameInjectiveOverPathsIgnoresStateCard : Claim7 := { stood := { row := fnNameInjectiveOverPathsIgnoresStateRow, standIns := [], harness := (true, "1d3b239b2a4fe80513047b659f086fdcd8ceb0aea0e5246d455b68dd81fb147f"), looks := true }, told := true, goes := false }
def FnNameInjectiveOverPathsIgnoresStateToldSaid : Prop := Claim7.holds Tryf.pinned (.plain (OpenSpec.ofChange fnNameInjectiveOverPathsIgnoresStateSpec)) fnNameInjectiveOverPathsIgnoresStateCard
/-- ITS FALSE NEIGHBOUR. Refute it at one input. -/
def FnNameInjectiveOverPathsIgnoresStateToldWrongFalsely : Prop := Claim7.holds Tryf.pinned (.plain (OpenSpec.ofChange fnNameInjectiveOverPathsIgnoresStateWrong)) fnNameInjectiveOverPathsIgnoresStateCard
end Rows
end Go.Proofs.YtnijgncgholeoaaFmt
