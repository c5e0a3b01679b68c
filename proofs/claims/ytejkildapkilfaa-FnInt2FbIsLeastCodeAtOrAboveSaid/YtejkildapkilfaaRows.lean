/-
  No cell of these rows narrows 'for every input' (looked for: loops, veiled, ifaces, maps, wideKeys, modest, calm, conditions, laid).
  DERIVED. THE GIVEN ROWS OF THIS SEAT. 9 by the template 'for every input the law returns true; each argument reads behind the call as it read before'; 0 by the template 'total and deterministic' (their statements: YtejkildapkilfaaTotals.lean).
  GIVEN WITH THE SEED: the statements are not yours to turn. If you find one false, say at which input.
  Laid BY PROGRAM, IN A SANDBOX (cutbox-rows.mjs): the forced cells as the released guide's own fill.sh prints them over the translation 3fde563b37d8558f… (all of the seat's roots in one cut). By AI agents, Wed Nov 11 2026. No macro, syntax, notation, axiom, sorry.
-/
import Derived.Test.YtejkildapkilfaaChecked
import GoSem.Claim
import GoSem.ClaimJoined
import GoSem.ClaimMapViews
import Derived.JoinedTies
import Derived.KernelRfl
namespace Go.Proofs.Ytejkildapkilfaa
/- THE CELL 'sum', in the pinned program and in every row, IS THE sha256 OF THE DUMP (.gsa) THAT YtejkildapkilfaaProg.lean LOADS. Nothing in Lean hashes anything: it is a label: what it is worth is what the hold of that sum in a sandbox is worth. -/
noncomputable def Try.pinned : Pinned := { name := "ytejkildapkilfaa", sum := "3fde563b37d8558fbd41bde729395ce375a788d4d36b229aa8c65ab227e6f690", checked := Try.checked }
namespace Rows
def none {H : Type} : Left H := { results := [], args := [] }

/-- 'n005_165.FnInt2FbRoundTripsCodes': WHATEVER THE INPUT: true; the input reads as it did. -/
def fnInt2FbRoundTripsCodesSpec : ChangeSpec := { name := "fnInt2FbRoundTripsCodes", fn := fun _ => fun
  | [d] => { results := [.lit (.bool true)], args := [d] }
  | _ => none }
def fnInt2FbRoundTripsCodesRow : OpenClaim := { program := "ytejkildapkilfaa", sum := "3fde563b37d8558fbd41bde729395ce375a788d4d36b229aa8c65ab227e6f690", func := "github.com/yuin/gopher-lua/n005_165.FnInt2FbRoundTripsCodes", spec := "fnInt2FbRoundTripsCodes", apart := false }
def FnInt2FbRoundTripsCodesSaid : Prop := fnInt2FbRoundTripsCodesRow.holds Try.pinned (OpenSpec.ofChange fnInt2FbRoundTripsCodesSpec)

/-- ITS FALSE NEIGHBOUR: 'it returns false'. Refute it at one input. -/
def fnInt2FbRoundTripsCodesWrong : ChangeSpec := { name := "fnInt2FbRoundTripsCodes", fn := fun _ => fun
  | [d] => { results := [.lit (.bool false)], args := [d] }
  | _ => none }
def FnInt2FbRoundTripsCodesWrongFalsely : Prop := fnInt2FbRoundTripsCodesRow.holds Try.pinned (OpenSpec.ofChange fnInt2FbRoundTripsCodesWrong)

/-- 'n005_165.FnInt2FbIsLeastCodeAtOrAbove': WHATEVER THE INPUT: true; the input reads as it did. -/
def fnInt2FbIsLeastCodeAtOrAboveSpec : ChangeSpec := { name := "fnInt2FbIsLeastCodeAtOrAbove", fn := fun _ => fun
  | [d] => { results := [.lit (.bool true)], args := [d] }
  | _ => none }
def fnInt2FbIsLeastCodeAtOrAboveRow : OpenClaim := { program := "ytejkildapkilfaa", sum := "3fde563b37d8558fbd41bde729395ce375a788d4d36b229aa8c65ab227e6f690", func := "github.com/yuin/gopher-lua/n005_165.FnInt2FbIsLeastCodeAtOrAbove", spec := "fnInt2FbIsLeastCodeAtOrAbove", apart := false }
def FnInt2FbIsLeastCodeAtOrAboveSaid : Prop := fnInt2FbIsLeastCodeAtOrAboveRow.holds Try.pinned (OpenSpec.ofChange fnInt2FbIsLeastCodeAtOrAboveSpec)

/-- ITS FALSE NEIGHBOUR: 'it returns false'. Refute it at one input. -/
def fnInt2FbIsLeastCodeAtOrAboveWrong : ChangeSpec := { name := "fnInt2FbIsLeastCodeAtOrAbove", fn := fun _ => fun
  | [d] => { results := [.lit (.bool false)], args := [d] }
  | _ => none }
def FnInt2FbIsLeastCodeAtOrAboveWrongFalsely : Prop := fnInt2FbIsLeastCodeAtOrAboveRow.holds Try.pinned (OpenSpec.ofChange fnInt2FbIsLeastCodeAtOrAboveWrong)

/-- 'n005_41.FnSetBxIsSetBThenSetC': WHATEVER THE INPUT: true; the input reads as it did. -/
def fnSetBxIsSetBThenSetCSpec : ChangeSpec := { name := "fnSetBxIsSetBThenSetC", fn := fun _ => fun
  | [d1, d2, d3] => { results := [.lit (.bool true)], args := [d1, d2, d3] }
  | _ => none }
def fnSetBxIsSetBThenSetCRow : OpenClaim := { program := "ytejkildapkilfaa", sum := "3fde563b37d8558fbd41bde729395ce375a788d4d36b229aa8c65ab227e6f690", func := "github.com/yuin/gopher-lua/n005_41.FnSetBxIsSetBThenSetC", spec := "fnSetBxIsSetBThenSetC", apart := false }
def FnSetBxIsSetBThenSetCSaid : Prop := fnSetBxIsSetBThenSetCRow.holds Try.pinned (OpenSpec.ofChange fnSetBxIsSetBThenSetCSpec)

/-- ITS FALSE NEIGHBOUR: 'it returns false'. Refute it at one input. -/
def fnSetBxIsSetBThenSetCWrong : ChangeSpec := { name := "fnSetBxIsSetBThenSetC", fn := fun _ => fun
  | [d1, d2, d3] => { results := [.lit (.bool false)], args := [d1, d2, d3] }
  | _ => none }
def FnSetBxIsSetBThenSetCWrongFalsely : Prop := fnSetBxIsSetBThenSetCRow.holds Try.pinned (OpenSpec.ofChange fnSetBxIsSetBThenSetCWrong)

/-- 'n005_41.FnSetBExact': WHATEVER THE INPUT: true; the input reads as it did. -/
def fnSetBExactSpec : ChangeSpec := { name := "fnSetBExact", fn := fun _ => fun
  | [d1, d2, d3] => { results := [.lit (.bool true)], args := [d1, d2, d3] }
  | _ => none }
def fnSetBExactRow : OpenClaim := { program := "ytejkildapkilfaa", sum := "3fde563b37d8558fbd41bde729395ce375a788d4d36b229aa8c65ab227e6f690", func := "github.com/yuin/gopher-lua/n005_41.FnSetBExact", spec := "fnSetBExact", apart := false }
def FnSetBExactSaid : Prop := fnSetBExactRow.holds Try.pinned (OpenSpec.ofChange fnSetBExactSpec)

/-- ITS FALSE NEIGHBOUR: 'it returns false'. Refute it at one input. -/
def fnSetBExactWrong : ChangeSpec := { name := "fnSetBExact", fn := fun _ => fun
  | [d1, d2, d3] => { results := [.lit (.bool false)], args := [d1, d2, d3] }
  | _ => none }
def FnSetBExactWrongFalsely : Prop := fnSetBExactRow.holds Try.pinned (OpenSpec.ofChange fnSetBExactWrong)

/-- 'n005_41.FnSetBxExact': WHATEVER THE INPUT: true; the input reads as it did. -/
def fnSetBxExactSpec : ChangeSpec := { name := "fnSetBxExact", fn := fun _ => fun
  | [d1, d2, d3] => { results := [.lit (.bool true)], args := [d1, d2, d3] }
  | _ => none }
def fnSetBxExactRow : OpenClaim := { program := "ytejkildapkilfaa", sum := "3fde563b37d8558fbd41bde729395ce375a788d4d36b229aa8c65ab227e6f690", func := "github.com/yuin/gopher-lua/n005_41.FnSetBxExact", spec := "fnSetBxExact", apart := false }
def FnSetBxExactSaid : Prop := fnSetBxExactRow.holds Try.pinned (OpenSpec.ofChange fnSetBxExactSpec)

/-- ITS FALSE NEIGHBOUR: 'it returns false'. Refute it at one input. -/
def fnSetBxExactWrong : ChangeSpec := { name := "fnSetBxExact", fn := fun _ => fun
  | [d1, d2, d3] => { results := [.lit (.bool false)], args := [d1, d2, d3] }
  | _ => none }
def FnSetBxExactWrongFalsely : Prop := fnSetBxExactRow.holds Try.pinned (OpenSpec.ofChange fnSetBxExactWrong)

/-- 'n005_41.FnSetCCommutesWithSetB': WHATEVER THE INPUT: true; the input reads as it did. -/
def fnSetCCommutesWithSetBSpec : ChangeSpec := { name := "fnSetCCommutesWithSetB", fn := fun _ => fun
  | [d1, d2, d3, d4] => { results := [.lit (.bool true)], args := [d1, d2, d3, d4] }
  | _ => none }
def fnSetCCommutesWithSetBRow : OpenClaim := { program := "ytejkildapkilfaa", sum := "3fde563b37d8558fbd41bde729395ce375a788d4d36b229aa8c65ab227e6f690", func := "github.com/yuin/gopher-lua/n005_41.FnSetCCommutesWithSetB", spec := "fnSetCCommutesWithSetB", apart := false }
def FnSetCCommutesWithSetBSaid : Prop := fnSetCCommutesWithSetBRow.holds Try.pinned (OpenSpec.ofChange fnSetCCommutesWithSetBSpec)

/-- ITS FALSE NEIGHBOUR: 'it returns false'. Refute it at one input. -/
def fnSetCCommutesWithSetBWrong : ChangeSpec := { name := "fnSetCCommutesWithSetB", fn := fun _ => fun
  | [d1, d2, d3, d4] => { results := [.lit (.bool false)], args := [d1, d2, d3, d4] }
  | _ => none }
def FnSetCCommutesWithSetBWrongFalsely : Prop := fnSetCCommutesWithSetBRow.holds Try.pinned (OpenSpec.ofChange fnSetCCommutesWithSetBWrong)

/-- 'n005_41.FnSetCExact': WHATEVER THE INPUT: true; the input reads as it did. -/
def fnSetCExactSpec : ChangeSpec := { name := "fnSetCExact", fn := fun _ => fun
  | [d1, d2, d3] => { results := [.lit (.bool true)], args := [d1, d2, d3] }
  | _ => none }
def fnSetCExactRow : OpenClaim := { program := "ytejkildapkilfaa", sum := "3fde563b37d8558fbd41bde729395ce375a788d4d36b229aa8c65ab227e6f690", func := "github.com/yuin/gopher-lua/n005_41.FnSetCExact", spec := "fnSetCExact", apart := false }
def FnSetCExactSaid : Prop := fnSetCExactRow.holds Try.pinned (OpenSpec.ofChange fnSetCExactSpec)

/-- ITS FALSE NEIGHBOUR: 'it returns false'. Refute it at one input. -/
def fnSetCExactWrong : ChangeSpec := { name := "fnSetCExact", fn := fun _ => fun
  | [d1, d2, d3] => { results := [.lit (.bool false)], args := [d1, d2, d3] }
  | _ => none }
def FnSetCExactWrongFalsely : Prop := fnSetCExactRow.holds Try.pinned (OpenSpec.ofChange fnSetCExactWrong)

/-- 'n005_41.FnSetSbxExact': WHATEVER THE INPUT: true; the input reads as it did. -/
def fnSetSbxExactSpec : ChangeSpec := { name := "fnSetSbxExact", fn := fun _ => fun
  | [d1, d2, d3] => { results := [.lit (.bool true)], args := [d1, d2, d3] }
  | _ => none }
def fnSetSbxExactRow : OpenClaim := { program := "ytejkildapkilfaa", sum := "3fde563b37d8558fbd41bde729395ce375a788d4d36b229aa8c65ab227e6f690", func := "github.com/yuin/gopher-lua/n005_41.FnSetSbxExact", spec := "fnSetSbxExact", apart := false }
def FnSetSbxExactSaid : Prop := fnSetSbxExactRow.holds Try.pinned (OpenSpec.ofChange fnSetSbxExactSpec)

/-- ITS FALSE NEIGHBOUR: 'it returns false'. Refute it at one input. -/
def fnSetSbxExactWrong : ChangeSpec := { name := "fnSetSbxExact", fn := fun _ => fun
  | [d1, d2, d3] => { results := [.lit (.bool false)], args := [d1, d2, d3] }
  | _ => none }
def FnSetSbxExactWrongFalsely : Prop := fnSetSbxExactRow.holds Try.pinned (OpenSpec.ofChange fnSetSbxExactWrong)

/-- 'n005_41.FnSetSbxIsExcessEncodedBx': WHATEVER THE INPUT: true; the input reads as it did. -/
def fnSetSbxIsExcessEncodedBxSpec : ChangeSpec := { name := "fnSetSbxIsExcessEncodedBx", fn := fun _ => fun
  | [d1, d2, d3] => { results := [.lit (.bool true)], args := [d1, d2, d3] }
  | _ => none }
def fnSetSbxIsExcessEncodedBxRow : OpenClaim := { program := "ytejkildapkilfaa", sum := "3fde563b37d8558fbd41bde729395ce375a788d4d36b229aa8c65ab227e6f690", func := "github.com/yuin/gopher-lua/n005_41.FnSetSbxIsExcessEncodedBx", spec := "fnSetSbxIsExcessEncodedBx", apart := false }
def FnSetSbxIsExcessEncodedBxSaid : Prop := fnSetSbxIsExcessEncodedBxRow.holds Try.pinned (OpenSpec.ofChange fnSetSbxIsExcessEncodedBxSpec)

/-- ITS FALSE NEIGHBOUR: 'it returns false'. Refute it at one input. -/
def fnSetSbxIsExcessEncodedBxWrong : ChangeSpec := { name := "fnSetSbxIsExcessEncodedBx", fn := fun _ => fun
  | [d1, d2, d3] => { results := [.lit (.bool false)], args := [d1, d2, d3] }
  | _ => none }
def FnSetSbxIsExcessEncodedBxWrongFalsely : Prop := fnSetSbxIsExcessEncodedBxRow.holds Try.pinned (OpenSpec.ofChange fnSetSbxIsExcessEncodedBxWrong)

/- THE SECOND FORM. 'bulk': how many values and letters a reading holds, each counted each time it is reached (what is shared counts as often as it is met; a slice's spare places count too). A statement '..UptoSaid' is the law's where the arguments, and the package variables that the reading takes, are together of bulk at most 1048576: NARROWER than '..Said'. Prove '..Said' where nothing that the law and all that it calls make is longer than what came in: it says more and counts as full. Else prove '..UptoSaid'. A law counts once. -/
mutual
def uptoBulk {H : Type} : DataW H → Nat
  | .lit (.string bytes) => bytes.length + 1
  | .lit _ => 1
  | .nil => 1
  | .ptr d => uptoBulk d + 1
  | .slice elems spare => uptoBulkAll elems + uptoBulkAll spare + 1
  | .agg parts => uptoBulkAll parts + 1
  | .iface _ d => uptoBulk d + 1
  | .map entries => uptoBulkEntries entries + 1
  | .held _ => 1
def uptoBulkAll {H : Type} : List (DataW H) → Nat
  | [] => 0
  | d :: r => uptoBulk d + uptoBulkAll r
def uptoBulkEntries {H : Type} : List (Lit × DataW H) → Nat
  | [] => 0
  | x :: r => uptoBulkEntry x + uptoBulkEntries r
def uptoBulkEntry {H : Type} : Lit × DataW H → Nat
  | (.string bytes, d) => bytes.length + uptoBulk d + 1
  | (_, d) => uptoBulk d + 1
 end
def uptoSmall : (H : Type) → List (DataW H) → Bool := fun _ ds => decide (uptoBulkAll ds ≤ 1048576)
def OpenSpec.upto (s : _root_.Go.ChangeSpec) : _root_.Go.OpenSpec := { _root_.Go.OpenSpec.ofChange s with cond := some uptoSmall }

/-- 'n005_165.FnInt2FbRoundTripsCodes', WHERE WHAT IT READS IS OF BULK AT MOST 1048576: true; the input reads as it did. -/
def fnInt2FbRoundTripsCodesUptoRow : OpenClaim := { program := "ytejkildapkilfaa", sum := "3fde563b37d8558fbd41bde729395ce375a788d4d36b229aa8c65ab227e6f690", func := "github.com/yuin/gopher-lua/n005_165.FnInt2FbRoundTripsCodes", spec := "fnInt2FbRoundTripsCodes", apart := false, narrowed := true }
def FnInt2FbRoundTripsCodesUptoSaid : Prop := fnInt2FbRoundTripsCodesUptoRow.holds Try.pinned (OpenSpec.upto fnInt2FbRoundTripsCodesSpec)

/-- 'n005_165.FnInt2FbIsLeastCodeAtOrAbove', WHERE WHAT IT READS IS OF BULK AT MOST 1048576: true; the input reads as it did. -/
def fnInt2FbIsLeastCodeAtOrAboveUptoRow : OpenClaim := { program := "ytejkildapkilfaa", sum := "3fde563b37d8558fbd41bde729395ce375a788d4d36b229aa8c65ab227e6f690", func := "github.com/yuin/gopher-lua/n005_165.FnInt2FbIsLeastCodeAtOrAbove", spec := "fnInt2FbIsLeastCodeAtOrAbove", apart := false, narrowed := true }
def FnInt2FbIsLeastCodeAtOrAboveUptoSaid : Prop := fnInt2FbIsLeastCodeAtOrAboveUptoRow.holds Try.pinned (OpenSpec.upto fnInt2FbIsLeastCodeAtOrAboveSpec)

/-- 'n005_41.FnSetBxIsSetBThenSetC', WHERE WHAT IT READS IS OF BULK AT MOST 1048576: true; the input reads as it did. -/
def fnSetBxIsSetBThenSetCUptoRow : OpenClaim := { program := "ytejkildapkilfaa", sum := "3fde563b37d8558fbd41bde729395ce375a788d4d36b229aa8c65ab227e6f690", func := "github.com/yuin/gopher-lua/n005_41.FnSetBxIsSetBThenSetC", spec := "fnSetBxIsSetBThenSetC", apart := false, narrowed := true }
def FnSetBxIsSetBThenSetCUptoSaid : Prop := fnSetBxIsSetBThenSetCUptoRow.holds Try.pinned (OpenSpec.upto fnSetBxIsSetBThenSetCSpec)

/-- 'n005_41.FnSetBExact', WHERE WHAT IT READS IS OF BULK AT MOST 1048576: true; the input reads as it did. -/
def fnSetBExactUptoRow : OpenClaim := { program := "ytejkildapkilfaa", sum := "3fde563b37d8558fbd41bde729395ce375a788d4d36b229aa8c65ab227e6f690", func := "github.com/yuin/gopher-lua/n005_41.FnSetBExact", spec := "fnSetBExact", apart := false, narrowed := true }
def FnSetBExactUptoSaid : Prop := fnSetBExactUptoRow.holds Try.pinned (OpenSpec.upto fnSetBExactSpec)

/-- 'n005_41.FnSetBxExact', WHERE WHAT IT READS IS OF BULK AT MOST 1048576: true; the input reads as it did. -/
def fnSetBxExactUptoRow : OpenClaim := { program := "ytejkildapkilfaa", sum := "3fde563b37d8558fbd41bde729395ce375a788d4d36b229aa8c65ab227e6f690", func := "github.com/yuin/gopher-lua/n005_41.FnSetBxExact", spec := "fnSetBxExact", apart := false, narrowed := true }
def FnSetBxExactUptoSaid : Prop := fnSetBxExactUptoRow.holds Try.pinned (OpenSpec.upto fnSetBxExactSpec)

/-- 'n005_41.FnSetCCommutesWithSetB', WHERE WHAT IT READS IS OF BULK AT MOST 1048576: true; the input reads as it did. -/
def fnSetCCommutesWithSetBUptoRow : OpenClaim := { program := "ytejkildapkilfaa", sum := "3fde563b37d8558fbd41bde729395ce375a788d4d36b229aa8c65ab227e6f690", func := "github.com/yuin/gopher-lua/n005_41.FnSetCCommutesWithSetB", spec := "fnSetCCommutesWithSetB", apart := false, narrowed := true }
def FnSetCCommutesWithSetBUptoSaid : Prop := fnSetCCommutesWithSetBUptoRow.holds Try.pinned (OpenSpec.upto fnSetCCommutesWithSetBSpec)

/-- 'n005_41.FnSetCExact', WHERE WHAT IT READS IS OF BULK AT MOST 1048576: true; the input reads as it did. -/
def fnSetCExactUptoRow : OpenClaim := { program := "ytejkildapkilfaa", sum := "3fde563b37d8558fbd41bde729395ce375a788d4d36b229aa8c65ab227e6f690", func := "github.com/yuin/gopher-lua/n005_41.FnSetCExact", spec := "fnSetCExact", apart := false, narrowed := true }
def FnSetCExactUptoSaid : Prop := fnSetCExactUptoRow.holds Try.pinned (OpenSpec.upto fnSetCExactSpec)

/-- 'n005_41.FnSetSbxExact', WHERE WHAT IT READS IS OF BULK AT MOST 1048576: true; the input reads as it did. -/
def fnSetSbxExactUptoRow : OpenClaim := { program := "ytejkildapkilfaa", sum := "3fde563b37d8558fbd41bde729395ce375a788d4d36b229aa8c65ab227e6f690", func := "github.com/yuin/gopher-lua/n005_41.FnSetSbxExact", spec := "fnSetSbxExact", apart := false, narrowed := true }
def FnSetSbxExactUptoSaid : Prop := fnSetSbxExactUptoRow.holds Try.pinned (OpenSpec.upto fnSetSbxExactSpec)

/-- 'n005_41.FnSetSbxIsExcessEncodedBx', WHERE WHAT IT READS IS OF BULK AT MOST 1048576: true; the input reads as it did. -/
def fnSetSbxIsExcessEncodedBxUptoRow : OpenClaim := { program := "ytejkildapkilfaa", sum := "3fde563b37d8558fbd41bde729395ce375a788d4d36b229aa8c65ab227e6f690", func := "github.com/yuin/gopher-lua/n005_41.FnSetSbxIsExcessEncodedBx", spec := "fnSetSbxIsExcessEncodedBx", apart := false, narrowed := true }
def FnSetSbxIsExcessEncodedBxUptoSaid : Prop := fnSetSbxIsExcessEncodedBxUptoRow.holds Try.pinned (OpenSpec.upto fnSetSbxIsExcessEncodedBxSpec)

end Rows
end Go.Proofs.Ytejkildapkilfaa
