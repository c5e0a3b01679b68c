/-
  No cell of these rows narrows 'for every input' (looked for: loops, veiled, ifaces, maps, wideKeys, modest, calm, conditions, laid).
  DERIVED. THE GIVEN ROWS OF THIS SEAT. 2 by the template 'for every input the law returns true; each argument reads behind the call as it read before'; 0 by the template 'total and deterministic' (their statements: YtnijgncgholeoaaFmtTotals.lean).
  GIVEN WITH THE SEED: the statements are not yours to turn. If you find one false, say at which input.
  Laid BY PROGRAM, IN A SANDBOX (cutbox-rows.mjs): the forced cells as the released guide's own fill.sh prints them over the translation c6f2af557ea36155… (all of the seat's roots in one cut). By AI agents, Wed Nov 11 2026. No macro, syntax, notation, axiom, sorry.
-/
import Derived.Test.YtnijgncgholeoaaFmtChecked
import GoSem.Claim
import GoSem.ClaimJoined
import GoSem.ClaimMapViews
import Derived.JoinedTies
import Derived.KernelRfl
namespace Go.Proofs.YtnijgncgholeoaaFmt
/- THE CELL 'sum', in the pinned program and in every row, IS THE sha256 OF THE DUMP (.gsa) THAT YtnijgncgholeoaaFmtProg.lean LOADS. Nothing in Lean hashes anything: it is a label: what it is worth is what the hold of that sum in a sandbox is worth. -/
noncomputable def Tryf.pinned : Pinned := { name := "ytnijgncgholeoaafmt", sum := "c6f2af557ea36155ae0be05fcdc592bddc42f9d29ab1b8683fd585560ffa24ff", checked := Tryf.checked }
namespace Rows
def none {H : Type} : Left H := { results := [], args := [] }

/-- 'n005_164.FnNameOfProcessIsProcessPath': WHATEVER THE INPUT: true; the input reads as it did. -/
def fnNameOfProcessIsProcessPathSpec : ChangeSpec := { name := "fnNameOfProcessIsProcessPath", fn := fun _ => fun
  | [d1, d2] => { results := [.lit (.bool true)], args := [d1, d2] }
  | _ => none }
def fnNameOfProcessIsProcessPathRow : OpenClaim := { program := "ytnijgncgholeoaafmt", sum := "c6f2af557ea36155ae0be05fcdc592bddc42f9d29ab1b8683fd585560ffa24ff", func := "github.com/yuin/gopher-lua/n005_164.FnNameOfProcessIsProcessPath", spec := "fnNameOfProcessIsProcessPath", stops := ["fmt.Sprintf"], inPlace := ["fmt.Sprintf"], apart := false }
/-- NO THEOREM (fmt's text is open here; it may be false): for the released tool's asking of the row's closed facts alone. THE STATEMENT IS 'FnNameOfProcessIsProcessPathToldSaid' (YtnijgncgholeoaaFmtCards.lean). -/
def FnNameOfProcessIsProcessPathFormAsk : Prop := fnNameOfProcessIsProcessPathRow.holds Tryf.pinned (OpenSpec.ofChange fnNameOfProcessIsProcessPathSpec)

/-- ITS FALSE NEIGHBOUR: 'it returns false'. Refute it at one input. -/
def fnNameOfProcessIsProcessPathWrong : ChangeSpec := { name := "fnNameOfProcessIsProcessPath", fn := fun _ => fun
  | [d1, d2] => { results := [.lit (.bool false)], args := [d1, d2] }
  | _ => none }
def FnNameOfProcessIsProcessPathWrongFormAsk : Prop := fnNameOfProcessIsProcessPathRow.holds Tryf.pinned (OpenSpec.ofChange fnNameOfProcessIsProcessPathWrong)

/-- 'n005_164.FnNameInjectiveOverPathsIgnoresState': WHATEVER THE INPUT: true; the input reads as it did. -/
def fnNameInjectiveOverPathsIgnoresStateSpec : ChangeSpec := { name := "fnNameInjectiveOverPathsIgnoresState", fn := fun _ => fun
  | [d1, d2, d3, d4, d5, d6] => { results := [.lit (.bool true)], args := [d1, d2, d3, d4, d5, d6] }
  | _ => none }
def fnNameInjectiveOverPathsIgnoresStateRow : OpenClaim := { program := "ytnijgncgholeoaafmt", sum := "c6f2af557ea36155ae0be05fcdc592bddc42f9d29ab1b8683fd585560ffa24ff", func := "github.com/yuin/gopher-lua/n005_164.FnNameInjectiveOverPathsIgnoresState", spec := "fnNameInjectiveOverPathsIgnoresState", stops := ["fmt.Sprintf"], inPlace := ["fmt.Sprintf"], apart := false }
/-- NO THEOREM (fmt's text is open here; it may be false): for the released tool's asking of the row's closed facts alone. THE STATEMENT IS 'FnNameInjectiveOverPathsIgnoresStateToldSaid' (YtnijgncgholeoaaFmtCards.lean). -/
def FnNameInjectiveOverPathsIgnoresStateFormAsk : Prop := fnNameInjectiveOverPathsIgnoresStateRow.holds Tryf.pinned (OpenSpec.ofChange fnNameInjectiveOverPathsIgnoresStateSpec)

/-- ITS FALSE NEIGHBOUR: 'it returns false'. Refute it at one input. -/
def fnNameInjectiveOverPathsIgnoresStateWrong : ChangeSpec := { name := "fnNameInjectiveOverPathsIgnoresState", fn := fun _ => fun
  | [d1, d2, d3, d4, d5, d6] => { results := [.lit (.bool false)], args := [d1, d2, d3, d4, d5, d6] }
  | _ => none }
def FnNameInjectiveOverPathsIgnoresStateWrongFormAsk : Prop := fnNameInjectiveOverPathsIgnoresStateRow.holds Tryf.pinned (OpenSpec.ofChange fnNameInjectiveOverPathsIgnoresStateWrong)

end Rows
end Go.Proofs.YtnijgncgholeoaaFmt
