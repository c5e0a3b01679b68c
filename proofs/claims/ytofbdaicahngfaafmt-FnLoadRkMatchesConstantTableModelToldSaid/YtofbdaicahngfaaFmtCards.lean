/-
  DERIVED. GIVEN WITH THE SEED: THE CARDS: each row of YtofbdaicahngfaaFmtRows.lean that lists a variable, with what it lists TIED to the program's text (the seventh form; the later family's looks); each row that meets fmt, with fmt's text TOLD by the authors' own Lean function (tested against real Go, not proved from fmt's source: count such statements apart). THE CARD IS WHAT COUNTS. Prove the row's statement (the work); the ties are given (YtofbdaicahngfaaFmtTie.lean); close each card by the builder's one call (the guide's Derived/Test/ToyasCard.lean, 'card_holds'). Laid BY PROGRAM, IN A SANDBOX (cutbox-door.mjs). By AI agents, Wed Nov 11 2026. No macro, syntax, notation, axiom, sorry.
-/
import Derived.Test.YtofbdaicahngfaaFmtRows
import GoSem.ClaimSeven
namespace Go.Proofs.YtofbdaicahngfaaFmt
namespace Rows

/-- THE TOLD CARD OF 'n005_157.FnLoadRkMatchesConstantTableModel'. -/
def fnLoadRkMatchesConstantTableModelCard : Claim7 := { stood := { row := fnLoadRkMatchesConstantTableModelRow, standIns := [], harness := (true, "f5f860e835d8a169214cbe1e4562ebc0fba2ebb48ff184e980d95f8a667ec2cc"), looks := true }, told := true, goes := false }
def FnLoadRkMatchesConstantTableModelToldSaid : Prop := Claim7.holds Tryf.pinned (.plain (OpenSpec.ofChange fnLoadRkMatchesConstantTableModelSpec)) fnLoadRkMatchesConstantTableModelCard
/-- ITS FALSE NEIGHBOUR. Refute it at one input. -/
def FnLoadRkMatchesConstantTableModelToldWrongFalsely : Prop := Claim7.holds Tryf.pinned (.plain (OpenSpec.ofChange fnLoadRkMatchesConstantTableModelWrong)) fnLoadRkMatchesConstantTableModelCard

/-- THE TOLD CARD OF 'n005_157.FnLoadRkTwiceNamesSameConstant'. -/
def fnLoadRkTwiceNamesSameConstantCard : Claim7 := { stood := { row := fnLoadRkTwiceNamesSameConstantRow, standIns := [], harness := (true, "f5f860e835d8a169214cbe1e4562ebc0fba2ebb48ff184e980d95f8a667ec2cc"), looks := true }, told := true, goes := false }
def FnLoadRkTwiceNamesSameConstantToldSaid : Prop := Claim7.holds Tryf.pinned (.plain (OpenSpec.ofChange fnLoadRkTwiceNamesSameConstantSpec)) fnLoadRkTwiceNamesSameConstantCard
/-- ITS FALSE NEIGHBOUR. Refute it at one input. -/
def FnLoadRkTwiceNamesSameConstantToldWrongFalsely : Prop := Claim7.holds Tryf.pinned (.plain (OpenSpec.ofChange fnLoadRkTwiceNamesSameConstantWrong)) fnLoadRkTwiceNamesSameConstantCard
end Rows
end Go.Proofs.YtofbdaicahngfaaFmt
