/-
  No cell of these rows narrows 'for every input' (looked for: loops, veiled, ifaces, maps, wideKeys, modest, calm, conditions, laid).
  DERIVED. THE GIVEN ROWS OF THIS SEAT. 10 by the template 'for every input the law returns true; each argument reads behind the call as it read before'; 0 by the template 'total and deterministic' (their statements: YtmlhjgledpglhaaTotals.lean).
  GIVEN WITH THE SEED: the statements are not yours to turn. If you find one false, say at which input.
  Laid BY PROGRAM, IN A SANDBOX (cutbox-rows.mjs): the forced cells as the released guide's own fill.sh prints them over the translation 3281c7d09237eb93… (all of the seat's roots in one cut). By AI agents, Wed Nov 11 2026. No macro, syntax, notation, axiom, sorry.
-/
import Derived.Test.YtmlhjgledpglhaaChecked
import GoSem.Claim
import GoSem.ClaimJoined
import GoSem.ClaimMapViews
import Derived.JoinedTies
import Derived.KernelRfl
namespace Go.Proofs.Ytmlhjgledpglhaa
/- THE CELL 'sum', in the pinned program and in every row, IS THE sha256 OF THE DUMP (.gsa) THAT YtmlhjgledpglhaaProg.lean LOADS. Nothing in Lean hashes anything: it is a label: what it is worth is what the hold of that sum in a sandbox is worth. -/
noncomputable def Try.pinned : Pinned := { name := "ytmlhjgledpglhaa", sum := "3281c7d09237eb93199b7538ccf5d03163f4d7c4981dc22395c902dc89f57e60", checked := Try.checked }
namespace Rows
def none {H : Type} : Left H := { results := [], args := [] }

/-- 'n005_4.FnStrCmpMatchesLexicographicModel': WHATEVER THE INPUT: true; the input reads as it did. -/
def fnStrCmpMatchesLexicographicModelSpec : ChangeSpec := { name := "fnStrCmpMatchesLexicographicModel", fn := fun _ => fun
  | [d1, d2] => { results := [.lit (.bool true)], args := [d1, d2] }
  | _ => none }
def fnStrCmpMatchesLexicographicModelRow : OpenClaim := { program := "ytmlhjgledpglhaa", sum := "3281c7d09237eb93199b7538ccf5d03163f4d7c4981dc22395c902dc89f57e60", func := "github.com/yuin/gopher-lua/n005_4.FnStrCmpMatchesLexicographicModel", spec := "fnStrCmpMatchesLexicographicModel", apart := false }
def FnStrCmpMatchesLexicographicModelSaid : Prop := fnStrCmpMatchesLexicographicModelRow.holds Try.pinned (OpenSpec.ofChange fnStrCmpMatchesLexicographicModelSpec)

/-- ITS FALSE NEIGHBOUR: 'it returns false'. Refute it at one input. -/
def fnStrCmpMatchesLexicographicModelWrong : ChangeSpec := { name := "fnStrCmpMatchesLexicographicModel", fn := fun _ => fun
  | [d1, d2] => { results := [.lit (.bool false)], args := [d1, d2] }
  | _ => none }
def FnStrCmpMatchesLexicographicModelWrongFalsely : Prop := fnStrCmpMatchesLexicographicModelRow.holds Try.pinned (OpenSpec.ofChange fnStrCmpMatchesLexicographicModelWrong)

/-- 'n005_4.FnFlagScannerMarkersAgreeWithChangeFlag': WHATEVER THE INPUT: true; the input reads as it did. -/
def fnFlagScannerMarkersAgreeWithChangeFlagSpec : ChangeSpec := { name := "fnFlagScannerMarkersAgreeWithChangeFlag", fn := fun _ => fun
  | [d1, d2, d3, d4] => { results := [.lit (.bool true)], args := [d1, d2, d3, d4] }
  | _ => none }
def fnFlagScannerMarkersAgreeWithChangeFlagRow : OpenClaim := { program := "ytmlhjgledpglhaa", sum := "3281c7d09237eb93199b7538ccf5d03163f4d7c4981dc22395c902dc89f57e60", func := "github.com/yuin/gopher-lua/n005_4.FnFlagScannerMarkersAgreeWithChangeFlag", spec := "fnFlagScannerMarkersAgreeWithChangeFlag", recurses := true, apart := false }
def FnFlagScannerMarkersAgreeWithChangeFlagSaid : Prop := fnFlagScannerMarkersAgreeWithChangeFlagRow.holds Try.pinned (OpenSpec.ofChange fnFlagScannerMarkersAgreeWithChangeFlagSpec)

/-- ITS FALSE NEIGHBOUR: 'it returns false'. Refute it at one input. -/
def fnFlagScannerMarkersAgreeWithChangeFlagWrong : ChangeSpec := { name := "fnFlagScannerMarkersAgreeWithChangeFlag", fn := fun _ => fun
  | [d1, d2, d3, d4] => { results := [.lit (.bool false)], args := [d1, d2, d3, d4] }
  | _ => none }
def FnFlagScannerMarkersAgreeWithChangeFlagWrongFalsely : Prop := fnFlagScannerMarkersAgreeWithChangeFlagRow.holds Try.pinned (OpenSpec.ofChange fnFlagScannerMarkersAgreeWithChangeFlagWrong)

/-- 'n005_4.FnPropagateKMVRefusesHighTopOrEmpty': WHATEVER THE INPUT: true; the input reads as it did. -/
def fnPropagateKMVRefusesHighTopOrEmptySpec : ChangeSpec := { name := "fnPropagateKMVRefusesHighTopOrEmpty", fn := fun _ => fun
  | [d1, d2, d3, d4, d5] => { results := [.lit (.bool true)], args := [d1, d2, d3, d4, d5] }
  | _ => none }
def fnPropagateKMVRefusesHighTopOrEmptyRow : OpenClaim := { program := "ytmlhjgledpglhaa", sum := "3281c7d09237eb93199b7538ccf5d03163f4d7c4981dc22395c902dc89f57e60", func := "github.com/yuin/gopher-lua/n005_4.FnPropagateKMVRefusesHighTopOrEmpty", spec := "fnPropagateKMVRefusesHighTopOrEmpty", apart := false }
def FnPropagateKMVRefusesHighTopOrEmptySaid : Prop := fnPropagateKMVRefusesHighTopOrEmptyRow.holds Try.pinned (OpenSpec.ofChange fnPropagateKMVRefusesHighTopOrEmptySpec)

/-- ITS FALSE NEIGHBOUR: 'it returns false'. Refute it at one input. -/
def fnPropagateKMVRefusesHighTopOrEmptyWrong : ChangeSpec := { name := "fnPropagateKMVRefusesHighTopOrEmpty", fn := fun _ => fun
  | [d1, d2, d3, d4, d5] => { results := [.lit (.bool false)], args := [d1, d2, d3, d4, d5] }
  | _ => none }
def FnPropagateKMVRefusesHighTopOrEmptyWrongFalsely : Prop := fnPropagateKMVRefusesHighTopOrEmptyRow.holds Try.pinned (OpenSpec.ofChange fnPropagateKMVRefusesHighTopOrEmptyWrong)

/-- 'n005_4.FnStrCmpAntisymmetricZeroIffEqual': WHATEVER THE INPUT: true; the input reads as it did. -/
def fnStrCmpAntisymmetricZeroIffEqualSpec : ChangeSpec := { name := "fnStrCmpAntisymmetricZeroIffEqual", fn := fun _ => fun
  | [d1, d2] => { results := [.lit (.bool true)], args := [d1, d2] }
  | _ => none }
def fnStrCmpAntisymmetricZeroIffEqualRow : OpenClaim := { program := "ytmlhjgledpglhaa", sum := "3281c7d09237eb93199b7538ccf5d03163f4d7c4981dc22395c902dc89f57e60", func := "github.com/yuin/gopher-lua/n005_4.FnStrCmpAntisymmetricZeroIffEqual", spec := "fnStrCmpAntisymmetricZeroIffEqual", apart := false }
def FnStrCmpAntisymmetricZeroIffEqualSaid : Prop := fnStrCmpAntisymmetricZeroIffEqualRow.holds Try.pinned (OpenSpec.ofChange fnStrCmpAntisymmetricZeroIffEqualSpec)

/-- ITS FALSE NEIGHBOUR: 'it returns false'. Refute it at one input. -/
def fnStrCmpAntisymmetricZeroIffEqualWrong : ChangeSpec := { name := "fnStrCmpAntisymmetricZeroIffEqual", fn := fun _ => fun
  | [d1, d2] => { results := [.lit (.bool false)], args := [d1, d2] }
  | _ => none }
def FnStrCmpAntisymmetricZeroIffEqualWrongFalsely : Prop := fnStrCmpAntisymmetricZeroIffEqualRow.holds Try.pinned (OpenSpec.ofChange fnStrCmpAntisymmetricZeroIffEqualWrong)

/-- 'n005_4.FnPropagateKMVFoldsEncodedMoveAndLoadK': WHATEVER THE INPUT: true; the input reads as it did. -/
def fnPropagateKMVFoldsEncodedMoveAndLoadKSpec : ChangeSpec := { name := "fnPropagateKMVFoldsEncodedMoveAndLoadK", fn := fun _ => fun
  | [d1, d2, d3, d4, d5, d6, d7, d8, d9] => { results := [.lit (.bool true)], args := [d1, d2, d3, d4, d5, d6, d7, d8, d9] }
  | _ => none }
def fnPropagateKMVFoldsEncodedMoveAndLoadKRow : OpenClaim := { program := "ytmlhjgledpglhaa", sum := "3281c7d09237eb93199b7538ccf5d03163f4d7c4981dc22395c902dc89f57e60", func := "github.com/yuin/gopher-lua/n005_4.FnPropagateKMVFoldsEncodedMoveAndLoadK", spec := "fnPropagateKMVFoldsEncodedMoveAndLoadK", apart := false }
def FnPropagateKMVFoldsEncodedMoveAndLoadKSaid : Prop := fnPropagateKMVFoldsEncodedMoveAndLoadKRow.holds Try.pinned (OpenSpec.ofChange fnPropagateKMVFoldsEncodedMoveAndLoadKSpec)

/-- ITS FALSE NEIGHBOUR: 'it returns false'. Refute it at one input. -/
def fnPropagateKMVFoldsEncodedMoveAndLoadKWrong : ChangeSpec := { name := "fnPropagateKMVFoldsEncodedMoveAndLoadK", fn := fun _ => fun
  | [d1, d2, d3, d4, d5, d6, d7, d8, d9] => { results := [.lit (.bool false)], args := [d1, d2, d3, d4, d5, d6, d7, d8, d9] }
  | _ => none }
def FnPropagateKMVFoldsEncodedMoveAndLoadKWrongFalsely : Prop := fnPropagateKMVFoldsEncodedMoveAndLoadKRow.holds Try.pinned (OpenSpec.ofChange fnPropagateKMVFoldsEncodedMoveAndLoadKWrong)

/-- 'n005_4.FnStrCmpTransitive': WHATEVER THE INPUT: true; the input reads as it did. -/
def fnStrCmpTransitiveSpec : ChangeSpec := { name := "fnStrCmpTransitive", fn := fun _ => fun
  | [d1, d2, d3] => { results := [.lit (.bool true)], args := [d1, d2, d3] }
  | _ => none }
def fnStrCmpTransitiveRow : OpenClaim := { program := "ytmlhjgledpglhaa", sum := "3281c7d09237eb93199b7538ccf5d03163f4d7c4981dc22395c902dc89f57e60", func := "github.com/yuin/gopher-lua/n005_4.FnStrCmpTransitive", spec := "fnStrCmpTransitive", apart := false }
def FnStrCmpTransitiveSaid : Prop := fnStrCmpTransitiveRow.holds Try.pinned (OpenSpec.ofChange fnStrCmpTransitiveSpec)

/-- ITS FALSE NEIGHBOUR: 'it returns false'. Refute it at one input. -/
def fnStrCmpTransitiveWrong : ChangeSpec := { name := "fnStrCmpTransitive", fn := fun _ => fun
  | [d1, d2, d3] => { results := [.lit (.bool false)], args := [d1, d2, d3] }
  | _ => none }
def FnStrCmpTransitiveWrongFalsely : Prop := fnStrCmpTransitiveRow.holds Try.pinned (OpenSpec.ofChange fnStrCmpTransitiveWrong)

/-- 'n005_4.FnGsubDoReplaceMatchesSpliceModel': WHATEVER THE INPUT: true; the input reads as it did. -/
def fnGsubDoReplaceMatchesSpliceModelSpec : ChangeSpec := { name := "fnGsubDoReplaceMatchesSpliceModel", fn := fun _ => fun
  | [d1, d2, d3, d4] => { results := [.lit (.bool true)], args := [d1, d2, d3, d4] }
  | _ => none }
def fnGsubDoReplaceMatchesSpliceModelRow : OpenClaim := { program := "ytmlhjgledpglhaa", sum := "3281c7d09237eb93199b7538ccf5d03163f4d7c4981dc22395c902dc89f57e60", func := "github.com/yuin/gopher-lua/n005_4.FnGsubDoReplaceMatchesSpliceModel", spec := "fnGsubDoReplaceMatchesSpliceModel", apart := false }
def FnGsubDoReplaceMatchesSpliceModelSaid : Prop := fnGsubDoReplaceMatchesSpliceModelRow.holds Try.pinned (OpenSpec.ofChange fnGsubDoReplaceMatchesSpliceModelSpec)

/-- ITS FALSE NEIGHBOUR: 'it returns false'. Refute it at one input. -/
def fnGsubDoReplaceMatchesSpliceModelWrong : ChangeSpec := { name := "fnGsubDoReplaceMatchesSpliceModel", fn := fun _ => fun
  | [d1, d2, d3, d4] => { results := [.lit (.bool false)], args := [d1, d2, d3, d4] }
  | _ => none }
def FnGsubDoReplaceMatchesSpliceModelWrongFalsely : Prop := fnGsubDoReplaceMatchesSpliceModelRow.holds Try.pinned (OpenSpec.ofChange fnGsubDoReplaceMatchesSpliceModelWrong)

/-- 'n005_4.FnGsubDoReplaceUndoneByReverseReplace': WHATEVER THE INPUT: true; the input reads as it did. -/
def fnGsubDoReplaceUndoneByReverseReplaceSpec : ChangeSpec := { name := "fnGsubDoReplaceUndoneByReverseReplace", fn := fun _ => fun
  | [d1, d2, d3, d4] => { results := [.lit (.bool true)], args := [d1, d2, d3, d4] }
  | _ => none }
def fnGsubDoReplaceUndoneByReverseReplaceRow : OpenClaim := { program := "ytmlhjgledpglhaa", sum := "3281c7d09237eb93199b7538ccf5d03163f4d7c4981dc22395c902dc89f57e60", func := "github.com/yuin/gopher-lua/n005_4.FnGsubDoReplaceUndoneByReverseReplace", spec := "fnGsubDoReplaceUndoneByReverseReplace", apart := false }
def FnGsubDoReplaceUndoneByReverseReplaceSaid : Prop := fnGsubDoReplaceUndoneByReverseReplaceRow.holds Try.pinned (OpenSpec.ofChange fnGsubDoReplaceUndoneByReverseReplaceSpec)

/-- ITS FALSE NEIGHBOUR: 'it returns false'. Refute it at one input. -/
def fnGsubDoReplaceUndoneByReverseReplaceWrong : ChangeSpec := { name := "fnGsubDoReplaceUndoneByReverseReplace", fn := fun _ => fun
  | [d1, d2, d3, d4] => { results := [.lit (.bool false)], args := [d1, d2, d3, d4] }
  | _ => none }
def FnGsubDoReplaceUndoneByReverseReplaceWrongFalsely : Prop := fnGsubDoReplaceUndoneByReverseReplaceRow.holds Try.pinned (OpenSpec.ofChange fnGsubDoReplaceUndoneByReverseReplaceWrong)

/-- 'n005_4.FnPropagateKMVFoldsOrAllocates': WHATEVER THE INPUT: true; the input reads as it did. -/
def fnPropagateKMVFoldsOrAllocatesSpec : ChangeSpec := { name := "fnPropagateKMVFoldsOrAllocates", fn := fun _ => fun
  | [d1, d2, d3, d4, d5] => { results := [.lit (.bool true)], args := [d1, d2, d3, d4, d5] }
  | _ => none }
def fnPropagateKMVFoldsOrAllocatesRow : OpenClaim := { program := "ytmlhjgledpglhaa", sum := "3281c7d09237eb93199b7538ccf5d03163f4d7c4981dc22395c902dc89f57e60", func := "github.com/yuin/gopher-lua/n005_4.FnPropagateKMVFoldsOrAllocates", spec := "fnPropagateKMVFoldsOrAllocates", apart := false }
def FnPropagateKMVFoldsOrAllocatesSaid : Prop := fnPropagateKMVFoldsOrAllocatesRow.holds Try.pinned (OpenSpec.ofChange fnPropagateKMVFoldsOrAllocatesSpec)

/-- ITS FALSE NEIGHBOUR: 'it returns false'. Refute it at one input. -/
def fnPropagateKMVFoldsOrAllocatesWrong : ChangeSpec := { name := "fnPropagateKMVFoldsOrAllocates", fn := fun _ => fun
  | [d1, d2, d3, d4, d5] => { results := [.lit (.bool false)], args := [d1, d2, d3, d4, d5] }
  | _ => none }
def FnPropagateKMVFoldsOrAllocatesWrongFalsely : Prop := fnPropagateKMVFoldsOrAllocatesRow.holds Try.pinned (OpenSpec.ofChange fnPropagateKMVFoldsOrAllocatesWrong)

/-- 'n005_4.FnFlagScannerPassesThroughAndUnescapes': WHATEVER THE INPUT: true; the input reads as it did. -/
def fnFlagScannerPassesThroughAndUnescapesSpec : ChangeSpec := { name := "fnFlagScannerPassesThroughAndUnescapes", fn := fun _ => fun
  | [d1, d2] => { results := [.lit (.bool true)], args := [d1, d2] }
  | _ => none }
def fnFlagScannerPassesThroughAndUnescapesRow : OpenClaim := { program := "ytmlhjgledpglhaa", sum := "3281c7d09237eb93199b7538ccf5d03163f4d7c4981dc22395c902dc89f57e60", func := "github.com/yuin/gopher-lua/n005_4.FnFlagScannerPassesThroughAndUnescapes", spec := "fnFlagScannerPassesThroughAndUnescapes", recurses := true, apart := false }
def FnFlagScannerPassesThroughAndUnescapesSaid : Prop := fnFlagScannerPassesThroughAndUnescapesRow.holds Try.pinned (OpenSpec.ofChange fnFlagScannerPassesThroughAndUnescapesSpec)

/-- ITS FALSE NEIGHBOUR: 'it returns false'. Refute it at one input. -/
def fnFlagScannerPassesThroughAndUnescapesWrong : ChangeSpec := { name := "fnFlagScannerPassesThroughAndUnescapes", fn := fun _ => fun
  | [d1, d2] => { results := [.lit (.bool false)], args := [d1, d2] }
  | _ => none }
def FnFlagScannerPassesThroughAndUnescapesWrongFalsely : Prop := fnFlagScannerPassesThroughAndUnescapesRow.holds Try.pinned (OpenSpec.ofChange fnFlagScannerPassesThroughAndUnescapesWrong)

/- THE SECOND FORM. 'bulk': how many values and letters a reading holds, each counted each time it is reached (what is shared counts as often as it is met; a slice's spare places count too). A statement '..UptoSaid' is the law's where the arguments, and the package variables that the reading takes, are together of bulk at most 1048576: NARROWER than '..Said'. Prove '..Said' where nothing that the law and all that it calls make is longer than what came in: it says more and counts as full. Else prove '..UptoSaid'. A law counts once. -/
mutual
def uptoBulk {H : Type} : DataW H → Nat
  | .lit (.string bytes) => bytes.length + 1
  | .lit _ => 1
  | .nil => 1
  | .ptr d => uptoBulk d + 1
  | .slice elems spare => uptoBulkAll elems + uptoBulkAll spare + 1
  | .agg parts => uptoBulkAll parts + 1
  | .iface _ d => uptoBulk d + 1
  | .map entries => uptoBulkEntries entries + 1
  | .held _ => 1
def uptoBulkAll {H : Type} : List (DataW H) → Nat
  | [] => 0
  | d :: r => uptoBulk d + uptoBulkAll r
def uptoBulkEntries {H : Type} : List (Lit × DataW H) → Nat
  | [] => 0
  | x :: r => uptoBulkEntry x + uptoBulkEntries r
def uptoBulkEntry {H : Type} : Lit × DataW H → Nat
  | (.string bytes, d) => bytes.length + uptoBulk d + 1
  | (_, d) => uptoBulk d + 1
 end
def uptoSmall : (H : Type) → List (DataW H) → Bool := fun _ ds => decide (uptoBulkAll ds ≤ 1048576)
def OpenSpec.upto (s : _root_.Go.ChangeSpec) : _root_.Go.OpenSpec := { _root_.Go.OpenSpec.ofChange s with cond := some uptoSmall }

/-- 'n005_4.FnStrCmpMatchesLexicographicModel', WHERE WHAT IT READS IS OF BULK AT MOST 1048576: true; the input reads as it did. -/
def fnStrCmpMatchesLexicographicModelUptoRow : OpenClaim := { program := "ytmlhjgledpglhaa", sum := "3281c7d09237eb93199b7538ccf5d03163f4d7c4981dc22395c902dc89f57e60", func := "github.com/yuin/gopher-lua/n005_4.FnStrCmpMatchesLexicographicModel", spec := "fnStrCmpMatchesLexicographicModel", apart := false, narrowed := true }
def FnStrCmpMatchesLexicographicModelUptoSaid : Prop := fnStrCmpMatchesLexicographicModelUptoRow.holds Try.pinned (OpenSpec.upto fnStrCmpMatchesLexicographicModelSpec)

/-- 'n005_4.FnFlagScannerMarkersAgreeWithChangeFlag', WHERE WHAT IT READS IS OF BULK AT MOST 1048576: true; the input reads as it did. -/
def fnFlagScannerMarkersAgreeWithChangeFlagUptoRow : OpenClaim := { program := "ytmlhjgledpglhaa", sum := "3281c7d09237eb93199b7538ccf5d03163f4d7c4981dc22395c902dc89f57e60", func := "github.com/yuin/gopher-lua/n005_4.FnFlagScannerMarkersAgreeWithChangeFlag", spec := "fnFlagScannerMarkersAgreeWithChangeFlag", recurses := true, apart := false, narrowed := true }
def FnFlagScannerMarkersAgreeWithChangeFlagUptoSaid : Prop := fnFlagScannerMarkersAgreeWithChangeFlagUptoRow.holds Try.pinned (OpenSpec.upto fnFlagScannerMarkersAgreeWithChangeFlagSpec)

/-- 'n005_4.FnPropagateKMVRefusesHighTopOrEmpty', WHERE WHAT IT READS IS OF BULK AT MOST 1048576: true; the input reads as it did. -/
def fnPropagateKMVRefusesHighTopOrEmptyUptoRow : OpenClaim := { program := "ytmlhjgledpglhaa", sum := "3281c7d09237eb93199b7538ccf5d03163f4d7c4981dc22395c902dc89f57e60", func := "github.com/yuin/gopher-lua/n005_4.FnPropagateKMVRefusesHighTopOrEmpty", spec := "fnPropagateKMVRefusesHighTopOrEmpty", apart := false, narrowed := true }
def FnPropagateKMVRefusesHighTopOrEmptyUptoSaid : Prop := fnPropagateKMVRefusesHighTopOrEmptyUptoRow.holds Try.pinned (OpenSpec.upto fnPropagateKMVRefusesHighTopOrEmptySpec)

/-- 'n005_4.FnStrCmpAntisymmetricZeroIffEqual', WHERE WHAT IT READS IS OF BULK AT MOST 1048576: true; the input reads as it did. -/
def fnStrCmpAntisymmetricZeroIffEqualUptoRow : OpenClaim := { program := "ytmlhjgledpglhaa", sum := "3281c7d09237eb93199b7538ccf5d03163f4d7c4981dc22395c902dc89f57e60", func := "github.com/yuin/gopher-lua/n005_4.FnStrCmpAntisymmetricZeroIffEqual", spec := "fnStrCmpAntisymmetricZeroIffEqual", apart := false, narrowed := true }
def FnStrCmpAntisymmetricZeroIffEqualUptoSaid : Prop := fnStrCmpAntisymmetricZeroIffEqualUptoRow.holds Try.pinned (OpenSpec.upto fnStrCmpAntisymmetricZeroIffEqualSpec)

/-- 'n005_4.FnPropagateKMVFoldsEncodedMoveAndLoadK', WHERE WHAT IT READS IS OF BULK AT MOST 1048576: true; the input reads as it did. -/
def fnPropagateKMVFoldsEncodedMoveAndLoadKUptoRow : OpenClaim := { program := "ytmlhjgledpglhaa", sum := "3281c7d09237eb93199b7538ccf5d03163f4d7c4981dc22395c902dc89f57e60", func := "github.com/yuin/gopher-lua/n005_4.FnPropagateKMVFoldsEncodedMoveAndLoadK", spec := "fnPropagateKMVFoldsEncodedMoveAndLoadK", apart := false, narrowed := true }
def FnPropagateKMVFoldsEncodedMoveAndLoadKUptoSaid : Prop := fnPropagateKMVFoldsEncodedMoveAndLoadKUptoRow.holds Try.pinned (OpenSpec.upto fnPropagateKMVFoldsEncodedMoveAndLoadKSpec)

/-- 'n005_4.FnStrCmpTransitive', WHERE WHAT IT READS IS OF BULK AT MOST 1048576: true; the input reads as it did. -/
def fnStrCmpTransitiveUptoRow : OpenClaim := { program := "ytmlhjgledpglhaa", sum := "3281c7d09237eb93199b7538ccf5d03163f4d7c4981dc22395c902dc89f57e60", func := "github.com/yuin/gopher-lua/n005_4.FnStrCmpTransitive", spec := "fnStrCmpTransitive", apart := false, narrowed := true }
def FnStrCmpTransitiveUptoSaid : Prop := fnStrCmpTransitiveUptoRow.holds Try.pinned (OpenSpec.upto fnStrCmpTransitiveSpec)

/-- 'n005_4.FnGsubDoReplaceMatchesSpliceModel', WHERE WHAT IT READS IS OF BULK AT MOST 1048576: true; the input reads as it did. -/
def fnGsubDoReplaceMatchesSpliceModelUptoRow : OpenClaim := { program := "ytmlhjgledpglhaa", sum := "3281c7d09237eb93199b7538ccf5d03163f4d7c4981dc22395c902dc89f57e60", func := "github.com/yuin/gopher-lua/n005_4.FnGsubDoReplaceMatchesSpliceModel", spec := "fnGsubDoReplaceMatchesSpliceModel", apart := false, narrowed := true }
def FnGsubDoReplaceMatchesSpliceModelUptoSaid : Prop := fnGsubDoReplaceMatchesSpliceModelUptoRow.holds Try.pinned (OpenSpec.upto fnGsubDoReplaceMatchesSpliceModelSpec)

/-- 'n005_4.FnGsubDoReplaceUndoneByReverseReplace', WHERE WHAT IT READS IS OF BULK AT MOST 1048576: true; the input reads as it did. -/
def fnGsubDoReplaceUndoneByReverseReplaceUptoRow : OpenClaim := { program := "ytmlhjgledpglhaa", sum := "3281c7d09237eb93199b7538ccf5d03163f4d7c4981dc22395c902dc89f57e60", func := "github.com/yuin/gopher-lua/n005_4.FnGsubDoReplaceUndoneByReverseReplace", spec := "fnGsubDoReplaceUndoneByReverseReplace", apart := false, narrowed := true }
def FnGsubDoReplaceUndoneByReverseReplaceUptoSaid : Prop := fnGsubDoReplaceUndoneByReverseReplaceUptoRow.holds Try.pinned (OpenSpec.upto fnGsubDoReplaceUndoneByReverseReplaceSpec)

/-- 'n005_4.FnPropagateKMVFoldsOrAllocates', WHERE WHAT IT READS IS OF BULK AT MOST 1048576: true; the input reads as it did. -/
def fnPropagateKMVFoldsOrAllocatesUptoRow : OpenClaim := { program := "ytmlhjgledpglhaa", sum := "3281c7d09237eb93199b7538ccf5d03163f4d7c4981dc22395c902dc89f57e60", func := "github.com/yuin/gopher-lua/n005_4.FnPropagateKMVFoldsOrAllocates", spec := "fnPropagateKMVFoldsOrAllocates", apart := false, narrowed := true }
def FnPropagateKMVFoldsOrAllocatesUptoSaid : Prop := fnPropagateKMVFoldsOrAllocatesUptoRow.holds Try.pinned (OpenSpec.upto fnPropagateKMVFoldsOrAllocatesSpec)

/-- 'n005_4.FnFlagScannerPassesThroughAndUnescapes', WHERE WHAT IT READS IS OF BULK AT MOST 1048576: true; the input reads as it did. -/
def fnFlagScannerPassesThroughAndUnescapesUptoRow : OpenClaim := { program := "ytmlhjgledpglhaa", sum := "3281c7d09237eb93199b7538ccf5d03163f4d7c4981dc22395c902dc89f57e60", func := "github.com/yuin/gopher-lua/n005_4.FnFlagScannerPassesThroughAndUnescapes", spec := "fnFlagScannerPassesThroughAndUnescapes", recurses := true, apart := false, narrowed := true }
def FnFlagScannerPassesThroughAndUnescapesUptoSaid : Prop := fnFlagScannerPassesThroughAndUnescapesUptoRow.holds Try.pinned (OpenSpec.upto fnFlagScannerPassesThroughAndUnescapesSpec)

end Rows
end Go.Proofs.Ytmlhjgledpglhaa
