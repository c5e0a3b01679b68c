/-
  No cell of these rows narrows 'for every input' (looked for: loops, veiled, ifaces, maps, wideKeys, modest, calm, conditions, laid).
  DERIVED. THE GIVEN ROWS OF THIS SEAT. 3 by the template 'for every input the law returns true; each argument reads behind the call as it read before'; 0 by the template 'total and deterministic' (their statements: YtofbdaicahngfaaTotals.lean).
  GIVEN WITH THE SEED: the statements are not yours to turn. If you find one false, say at which input.
  Laid BY PROGRAM, IN A SANDBOX (cutbox-rows.mjs): the forced cells as the released guide's own fill.sh prints them over the translation f7891546fc86a030… (all of the seat's roots in one cut). By AI agents, Wed Nov 11 2026. No macro, syntax, notation, axiom, sorry.
-/
import Derived.Test.YtofbdaicahngfaaChecked
import GoSem.Claim
import GoSem.ClaimJoined
import GoSem.ClaimMapViews
import Derived.JoinedTies
import Derived.KernelRfl
namespace Go.Proofs.Ytofbdaicahngfaa
/- THE CELL 'sum', in the pinned program and in every row, IS THE sha256 OF THE DUMP (.gsa) THAT YtofbdaicahngfaaProg.lean LOADS. Nothing in Lean hashes anything: it is a label: what it is worth is what the hold of that sum in a sandbox is worth. -/
noncomputable def Try.pinned : Pinned := { name := "ytofbdaicahngfaa", sum := "f7891546fc86a0304aeb8620b48f13f4dbe249e894df7bc2af1385b6460c8bcc", checked := Try.checked }
namespace Rows
def none {H : Type} : Left H := { results := [], args := [] }

/-- 'n005_154.FnNewCodeBlockFreshFields': WHATEVER THE INPUT: true; the input reads as it did. -/
def fnNewCodeBlockFreshFieldsSpec : ChangeSpec := { name := "fnNewCodeBlockFreshFields", fn := fun _ => fun
  | [d1, d2, d3, d4, d5] => { results := [.lit (.bool true)], args := [d1, d2, d3, d4, d5] }
  | _ => none }
def fnNewCodeBlockFreshFieldsRow : OpenClaim := { program := "ytofbdaicahngfaa", sum := "f7891546fc86a0304aeb8620b48f13f4dbe249e894df7bc2af1385b6460c8bcc", func := "github.com/yuin/gopher-lua/n005_154.FnNewCodeBlockFreshFields", spec := "fnNewCodeBlockFreshFields", unfollowed := true, recurses := true, apart := false }
def FnNewCodeBlockFreshFieldsSaid : Prop := fnNewCodeBlockFreshFieldsRow.holds Try.pinned (OpenSpec.ofChange fnNewCodeBlockFreshFieldsSpec)

/-- ITS FALSE NEIGHBOUR: 'it returns false'. Refute it at one input. -/
def fnNewCodeBlockFreshFieldsWrong : ChangeSpec := { name := "fnNewCodeBlockFreshFields", fn := fun _ => fun
  | [d1, d2, d3, d4, d5] => { results := [.lit (.bool false)], args := [d1, d2, d3, d4, d5] }
  | _ => none }
def FnNewCodeBlockFreshFieldsWrongFalsely : Prop := fnNewCodeBlockFreshFieldsRow.holds Try.pinned (OpenSpec.ofChange fnNewCodeBlockFreshFieldsWrong)

/-- 'n005_154.FnGetLabelAgreesWithAdd': WHATEVER THE INPUT: true; the input reads as it did. -/
def fnGetLabelAgreesWithAddSpec : ChangeSpec := { name := "fnGetLabelAgreesWithAdd", fn := fun _ => fun
  | [d1, d2] => { results := [.lit (.bool true)], args := [d1, d2] }
  | _ => none }
def fnGetLabelAgreesWithAddRow : OpenClaim := { program := "ytofbdaicahngfaa", sum := "f7891546fc86a0304aeb8620b48f13f4dbe249e894df7bc2af1385b6460c8bcc", func := "github.com/yuin/gopher-lua/n005_154.FnGetLabelAgreesWithAdd", spec := "fnGetLabelAgreesWithAdd", unfollowed := true, recurses := true, apart := false }
def FnGetLabelAgreesWithAddSaid : Prop := fnGetLabelAgreesWithAddRow.holds Try.pinned (OpenSpec.ofChange fnGetLabelAgreesWithAddSpec)

/-- ITS FALSE NEIGHBOUR: 'it returns false'. Refute it at one input. -/
def fnGetLabelAgreesWithAddWrong : ChangeSpec := { name := "fnGetLabelAgreesWithAdd", fn := fun _ => fun
  | [d1, d2] => { results := [.lit (.bool false)], args := [d1, d2] }
  | _ => none }
def FnGetLabelAgreesWithAddWrongFalsely : Prop := fnGetLabelAgreesWithAddRow.holds Try.pinned (OpenSpec.ofChange fnGetLabelAgreesWithAddWrong)

/-- 'n005_154.FnNewCodeBlockChainCount': WHATEVER THE INPUT: true; the input reads as it did. -/
def fnNewCodeBlockChainCountSpec : ChangeSpec := { name := "fnNewCodeBlockChainCount", fn := fun _ => fun
  | [d] => { results := [.lit (.bool true)], args := [d] }
  | _ => none }
def fnNewCodeBlockChainCountRow : OpenClaim := { program := "ytofbdaicahngfaa", sum := "f7891546fc86a0304aeb8620b48f13f4dbe249e894df7bc2af1385b6460c8bcc", func := "github.com/yuin/gopher-lua/n005_154.FnNewCodeBlockChainCount", spec := "fnNewCodeBlockChainCount", unfollowed := true, recurses := true, apart := false }
def FnNewCodeBlockChainCountSaid : Prop := fnNewCodeBlockChainCountRow.holds Try.pinned (OpenSpec.ofChange fnNewCodeBlockChainCountSpec)

/-- ITS FALSE NEIGHBOUR: 'it returns false'. Refute it at one input. -/
def fnNewCodeBlockChainCountWrong : ChangeSpec := { name := "fnNewCodeBlockChainCount", fn := fun _ => fun
  | [d] => { results := [.lit (.bool false)], args := [d] }
  | _ => none }
def FnNewCodeBlockChainCountWrongFalsely : Prop := fnNewCodeBlockChainCountRow.holds Try.pinned (OpenSpec.ofChange fnNewCodeBlockChainCountWrong)

/- THE SECOND FORM. 'bulk': how many values and letters a reading holds, each counted each time it is reached (what is shared counts as often as it is met; a slice's spare places count too). A statement '..UptoSaid' is the law's where the arguments, and the package variables that the reading takes, are together of bulk at most 1048576: NARROWER than '..Said'. Prove '..Said' where nothing that the law and all that it calls make is longer than what came in: it says more and counts as full. Else prove '..UptoSaid'. A law counts once. -/
mutual
def uptoBulk {H : Type} : DataW H → Nat
  | .lit (.string bytes) => bytes.length + 1
  | .lit _ => 1
  | .nil => 1
  | .ptr d => uptoBulk d + 1
  | .slice elems spare => uptoBulkAll elems + uptoBulkAll spare + 1
  | .agg parts => uptoBulkAll parts + 1
  | .iface _ d => uptoBulk d + 1
  | .map entries => uptoBulkEntries entries + 1
  | .held _ => 1
def uptoBulkAll {H : Type} : List (DataW H) → Nat
  | [] => 0
  | d :: r => uptoBulk d + uptoBulkAll r
def uptoBulkEntries {H : Type} : List (Lit × DataW H) → Nat
  | [] => 0
  | x :: r => uptoBulkEntry x + uptoBulkEntries r
def uptoBulkEntry {H : Type} : Lit × DataW H → Nat
  | (.string bytes, d) => bytes.length + uptoBulk d + 1
  | (_, d) => uptoBulk d + 1
 end
def uptoSmall : (H : Type) → List (DataW H) → Bool := fun _ ds => decide (uptoBulkAll ds ≤ 1048576)
def OpenSpec.upto (s : _root_.Go.ChangeSpec) : _root_.Go.OpenSpec := { _root_.Go.OpenSpec.ofChange s with cond := some uptoSmall }

/-- 'n005_154.FnNewCodeBlockFreshFields', WHERE WHAT IT READS IS OF BULK AT MOST 1048576: true; the input reads as it did. -/
def fnNewCodeBlockFreshFieldsUptoRow : OpenClaim := { program := "ytofbdaicahngfaa", sum := "f7891546fc86a0304aeb8620b48f13f4dbe249e894df7bc2af1385b6460c8bcc", func := "github.com/yuin/gopher-lua/n005_154.FnNewCodeBlockFreshFields", spec := "fnNewCodeBlockFreshFields", unfollowed := true, recurses := true, apart := false, narrowed := true }
def FnNewCodeBlockFreshFieldsUptoSaid : Prop := fnNewCodeBlockFreshFieldsUptoRow.holds Try.pinned (OpenSpec.upto fnNewCodeBlockFreshFieldsSpec)

/-- 'n005_154.FnGetLabelAgreesWithAdd', WHERE WHAT IT READS IS OF BULK AT MOST 1048576: true; the input reads as it did. -/
def fnGetLabelAgreesWithAddUptoRow : OpenClaim := { program := "ytofbdaicahngfaa", sum := "f7891546fc86a0304aeb8620b48f13f4dbe249e894df7bc2af1385b6460c8bcc", func := "github.com/yuin/gopher-lua/n005_154.FnGetLabelAgreesWithAdd", spec := "fnGetLabelAgreesWithAdd", unfollowed := true, recurses := true, apart := false, narrowed := true }
def FnGetLabelAgreesWithAddUptoSaid : Prop := fnGetLabelAgreesWithAddUptoRow.holds Try.pinned (OpenSpec.upto fnGetLabelAgreesWithAddSpec)

/-- 'n005_154.FnNewCodeBlockChainCount', WHERE WHAT IT READS IS OF BULK AT MOST 1048576: true; the input reads as it did. -/
def fnNewCodeBlockChainCountUptoRow : OpenClaim := { program := "ytofbdaicahngfaa", sum := "f7891546fc86a0304aeb8620b48f13f4dbe249e894df7bc2af1385b6460c8bcc", func := "github.com/yuin/gopher-lua/n005_154.FnNewCodeBlockChainCount", spec := "fnNewCodeBlockChainCount", unfollowed := true, recurses := true, apart := false, narrowed := true }
def FnNewCodeBlockChainCountUptoSaid : Prop := fnNewCodeBlockChainCountUptoRow.holds Try.pinned (OpenSpec.upto fnNewCodeBlockChainCountSpec)

end Rows
end Go.Proofs.Ytofbdaicahngfaa
