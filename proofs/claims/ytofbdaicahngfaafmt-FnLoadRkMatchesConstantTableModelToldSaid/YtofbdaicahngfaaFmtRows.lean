/-
  No cell of these rows narrows 'for every input' (looked for: loops, veiled, ifaces, maps, wideKeys, modest, calm, conditions, laid).
  DERIVED. THE GIVEN ROWS OF THIS SEAT. 2 by the template 'for every input the law returns true; each argument reads behind the call as it read before'; 0 by the template 'total and deterministic' (their statements: YtofbdaicahngfaaFmtTotals.lean).
  GIVEN WITH THE SEED: the statements are not yours to turn. If you find one false, say at which input.
  Laid BY PROGRAM, IN A SANDBOX (cutbox-rows.mjs): the forced cells as the released guide's own fill.sh prints them over the translation b2fecf563ff9cffc… (all of the seat's roots in one cut). By AI agents, Wed Nov 11 2026. No macro, syntax, notation, axiom, sorry.
-/
import Derived.Test.YtofbdaicahngfaaFmtChecked
import GoSem.Claim
import GoSem.ClaimJoined
import GoSem.ClaimMapViews
import Derived.JoinedTies
import Derived.KernelRfl
namespace Go.Proofs.YtofbdaicahngfaaFmt
/- THE CELL 'sum', in the pinned program and in every row, IS THE sha256 OF THE DUMP (.gsa) THAT YtofbdaicahngfaaFmtProg.lean LOADS. Nothing in Lean hashes anything: it is a label: what it is worth is what the hold of that sum in a sandbox is worth. -/
noncomputable def Tryf.pinned : Pinned := { name := "ytofbdaicahngfaafmt", sum := "b2fecf563ff9cffca84e8fc965e04749e7ed055062b8ee46f490009a6c7af3c9", checked := Tryf.checked }
namespace Rows
def none {H : Type} : Left H := { results := [], args := [] }

/-- 'n005_157.FnLoadRkMatchesConstantTableModel': WHATEVER THE INPUT: true; the input reads as it did. -/
def fnLoadRkMatchesConstantTableModelSpec : ChangeSpec := { name := "fnLoadRkMatchesConstantTableModel", fn := fun _ => fun
  | [d1, d2] => { results := [.lit (.bool true)], args := [d1, d2] }
  | _ => none }
def fnLoadRkMatchesConstantTableModelRow : OpenClaim := { program := "ytofbdaicahngfaafmt", sum := "b2fecf563ff9cffca84e8fc965e04749e7ed055062b8ee46f490009a6c7af3c9", func := "github.com/yuin/gopher-lua/n005_157.FnLoadRkMatchesConstantTableModel", spec := "fnLoadRkMatchesConstantTableModel", stops := ["fmt.Sprintf, its operands' methods called"], inPlace := ["fmt.Sprintf"], unfollowed := true, recurses := true, apart := false }
/-- NO THEOREM (fmt's text is open here; it may be false): for the released tool's asking of the row's closed facts alone. THE STATEMENT IS 'FnLoadRkMatchesConstantTableModelToldSaid' (YtofbdaicahngfaaFmtCards.lean). -/
def FnLoadRkMatchesConstantTableModelFormAsk : Prop := fnLoadRkMatchesConstantTableModelRow.holds Tryf.pinned (OpenSpec.ofChange fnLoadRkMatchesConstantTableModelSpec)

/-- ITS FALSE NEIGHBOUR: 'it returns false'. Refute it at one input. -/
def fnLoadRkMatchesConstantTableModelWrong : ChangeSpec := { name := "fnLoadRkMatchesConstantTableModel", fn := fun _ => fun
  | [d1, d2] => { results := [.lit (.bool false)], args := [d1, d2] }
  | _ => none }
def FnLoadRkMatchesConstantTableModelWrongFormAsk : Prop := fnLoadRkMatchesConstantTableModelRow.holds Tryf.pinned (OpenSpec.ofChange fnLoadRkMatchesConstantTableModelWrong)

/-- 'n005_157.FnLoadRkTwiceNamesSameConstant': WHATEVER THE INPUT: true; the input reads as it did. -/
def fnLoadRkTwiceNamesSameConstantSpec : ChangeSpec := { name := "fnLoadRkTwiceNamesSameConstant", fn := fun _ => fun
  | [d1, d2, d3] => { results := [.lit (.bool true)], args := [d1, d2, d3] }
  | _ => none }
def fnLoadRkTwiceNamesSameConstantRow : OpenClaim := { program := "ytofbdaicahngfaafmt", sum := "b2fecf563ff9cffca84e8fc965e04749e7ed055062b8ee46f490009a6c7af3c9", func := "github.com/yuin/gopher-lua/n005_157.FnLoadRkTwiceNamesSameConstant", spec := "fnLoadRkTwiceNamesSameConstant", stops := ["fmt.Sprintf, its operands' methods called"], inPlace := ["fmt.Sprintf"], unfollowed := true, recurses := true, apart := false }
/-- NO THEOREM (fmt's text is open here; it may be false): for the released tool's asking of the row's closed facts alone. THE STATEMENT IS 'FnLoadRkTwiceNamesSameConstantToldSaid' (YtofbdaicahngfaaFmtCards.lean). -/
def FnLoadRkTwiceNamesSameConstantFormAsk : Prop := fnLoadRkTwiceNamesSameConstantRow.holds Tryf.pinned (OpenSpec.ofChange fnLoadRkTwiceNamesSameConstantSpec)

/-- ITS FALSE NEIGHBOUR: 'it returns false'. Refute it at one input. -/
def fnLoadRkTwiceNamesSameConstantWrong : ChangeSpec := { name := "fnLoadRkTwiceNamesSameConstant", fn := fun _ => fun
  | [d1, d2, d3] => { results := [.lit (.bool false)], args := [d1, d2, d3] }
  | _ => none }
def FnLoadRkTwiceNamesSameConstantWrongFormAsk : Prop := fnLoadRkTwiceNamesSameConstantRow.holds Tryf.pinned (OpenSpec.ofChange fnLoadRkTwiceNamesSameConstantWrong)

end Rows
end Go.Proofs.YtofbdaicahngfaaFmt
