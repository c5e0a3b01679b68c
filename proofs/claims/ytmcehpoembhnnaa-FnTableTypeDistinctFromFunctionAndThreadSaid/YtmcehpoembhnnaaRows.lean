/-
  No cell of these rows narrows 'for every input' (looked for: loops, veiled, ifaces, maps, wideKeys, modest, calm, conditions, laid).
  DERIVED. THE GIVEN ROWS OF THIS SEAT. 10 by the template 'for every input the law returns true; each argument reads behind the call as it read before'; 0 by the template 'total and deterministic' (their statements: YtmcehpoembhnnaaTotals.lean).
  GIVEN WITH THE SEED: the statements are not yours to turn. If you find one false, say at which input.
  Laid BY PROGRAM, IN A SANDBOX (cutbox-rows.mjs): the forced cells as the released guide's own fill.sh prints them over the translation 7eceef158ffd9391… (all of the seat's roots in one cut). By AI agents, Wed Nov 11 2026. No macro, syntax, notation, axiom, sorry.
-/
import Derived.Test.YtmcehpoembhnnaaChecked
import GoSem.Claim
import GoSem.ClaimJoined
import GoSem.ClaimMapViews
import Derived.JoinedTies
import Derived.KernelRfl
namespace Go.Proofs.Ytmcehpoembhnnaa
/- THE CELL 'sum', in the pinned program and in every row, IS THE sha256 OF THE DUMP (.gsa) THAT YtmcehpoembhnnaaProg.lean LOADS. Nothing in Lean hashes anything: it is a label: what it is worth is what the hold of that sum in a sandbox is worth. -/
noncomputable def Try.pinned : Pinned := { name := "ytmcehpoembhnnaa", sum := "7eceef158ffd9391ff21832b6959707121a72237ad654820ce3cf3b00e842e3c", checked := Try.checked }
namespace Rows
def none {H : Type} : Left H := { results := [], args := [] }

/-- 'n005_155.FnGetArgBxJoinsCAndB': WHATEVER THE INPUT: true; the input reads as it did. -/
def fnGetArgBxJoinsCAndBSpec : ChangeSpec := { name := "fnGetArgBxJoinsCAndB", fn := fun _ => fun
  | [d] => { results := [.lit (.bool true)], args := [d] }
  | _ => none }
def fnGetArgBxJoinsCAndBRow : OpenClaim := { program := "ytmcehpoembhnnaa", sum := "7eceef158ffd9391ff21832b6959707121a72237ad654820ce3cf3b00e842e3c", func := "github.com/yuin/gopher-lua/n005_155.FnGetArgBxJoinsCAndB", spec := "fnGetArgBxJoinsCAndB", apart := false }
def FnGetArgBxJoinsCAndBSaid : Prop := fnGetArgBxJoinsCAndBRow.holds Try.pinned (OpenSpec.ofChange fnGetArgBxJoinsCAndBSpec)

/-- ITS FALSE NEIGHBOUR: 'it returns false'. Refute it at one input. -/
def fnGetArgBxJoinsCAndBWrong : ChangeSpec := { name := "fnGetArgBxJoinsCAndB", fn := fun _ => fun
  | [d] => { results := [.lit (.bool false)], args := [d] }
  | _ => none }
def FnGetArgBxJoinsCAndBWrongFalsely : Prop := fnGetArgBxJoinsCAndBRow.holds Try.pinned (OpenSpec.ofChange fnGetArgBxJoinsCAndBWrong)

/-- 'n005_155.FnSetArgBxExact': WHATEVER THE INPUT: true; the input reads as it did. -/
def fnSetArgBxExactSpec : ChangeSpec := { name := "fnSetArgBxExact", fn := fun _ => fun
  | [d1, d2] => { results := [.lit (.bool true)], args := [d1, d2] }
  | _ => none }
def fnSetArgBxExactRow : OpenClaim := { program := "ytmcehpoembhnnaa", sum := "7eceef158ffd9391ff21832b6959707121a72237ad654820ce3cf3b00e842e3c", func := "github.com/yuin/gopher-lua/n005_155.FnSetArgBxExact", spec := "fnSetArgBxExact", apart := false }
def FnSetArgBxExactSaid : Prop := fnSetArgBxExactRow.holds Try.pinned (OpenSpec.ofChange fnSetArgBxExactSpec)

/-- ITS FALSE NEIGHBOUR: 'it returns false'. Refute it at one input. -/
def fnSetArgBxExactWrong : ChangeSpec := { name := "fnSetArgBxExact", fn := fun _ => fun
  | [d1, d2] => { results := [.lit (.bool false)], args := [d1, d2] }
  | _ => none }
def FnSetArgBxExactWrongFalsely : Prop := fnSetArgBxExactRow.holds Try.pinned (OpenSpec.ofChange fnSetArgBxExactWrong)

/-- 'n005_155.FnGetArgBxIsLow18Bits': WHATEVER THE INPUT: true; the input reads as it did. -/
def fnGetArgBxIsLow18BitsSpec : ChangeSpec := { name := "fnGetArgBxIsLow18Bits", fn := fun _ => fun
  | [d] => { results := [.lit (.bool true)], args := [d] }
  | _ => none }
def fnGetArgBxIsLow18BitsRow : OpenClaim := { program := "ytmcehpoembhnnaa", sum := "7eceef158ffd9391ff21832b6959707121a72237ad654820ce3cf3b00e842e3c", func := "github.com/yuin/gopher-lua/n005_155.FnGetArgBxIsLow18Bits", spec := "fnGetArgBxIsLow18Bits", apart := false }
def FnGetArgBxIsLow18BitsSaid : Prop := fnGetArgBxIsLow18BitsRow.holds Try.pinned (OpenSpec.ofChange fnGetArgBxIsLow18BitsSpec)

/-- ITS FALSE NEIGHBOUR: 'it returns false'. Refute it at one input. -/
def fnGetArgBxIsLow18BitsWrong : ChangeSpec := { name := "fnGetArgBxIsLow18Bits", fn := fun _ => fun
  | [d] => { results := [.lit (.bool false)], args := [d] }
  | _ => none }
def FnGetArgBxIsLow18BitsWrongFalsely : Prop := fnGetArgBxIsLow18BitsRow.holds Try.pinned (OpenSpec.ofChange fnGetArgBxIsLow18BitsWrong)

/-- 'n005_155.FnGetArgSbxExact': WHATEVER THE INPUT: true; the input reads as it did. -/
def fnGetArgSbxExactSpec : ChangeSpec := { name := "fnGetArgSbxExact", fn := fun _ => fun
  | [d] => { results := [.lit (.bool true)], args := [d] }
  | _ => none }
def fnGetArgSbxExactRow : OpenClaim := { program := "ytmcehpoembhnnaa", sum := "7eceef158ffd9391ff21832b6959707121a72237ad654820ce3cf3b00e842e3c", func := "github.com/yuin/gopher-lua/n005_155.FnGetArgSbxExact", spec := "fnGetArgSbxExact", apart := false }
def FnGetArgSbxExactSaid : Prop := fnGetArgSbxExactRow.holds Try.pinned (OpenSpec.ofChange fnGetArgSbxExactSpec)

/-- ITS FALSE NEIGHBOUR: 'it returns false'. Refute it at one input. -/
def fnGetArgSbxExactWrong : ChangeSpec := { name := "fnGetArgSbxExact", fn := fun _ => fun
  | [d] => { results := [.lit (.bool false)], args := [d] }
  | _ => none }
def FnGetArgSbxExactWrongFalsely : Prop := fnGetArgSbxExactRow.holds Try.pinned (OpenSpec.ofChange fnGetArgSbxExactWrong)

/-- 'n005_155.FnSetArgSbxExact': WHATEVER THE INPUT: true; the input reads as it did. -/
def fnSetArgSbxExactSpec : ChangeSpec := { name := "fnSetArgSbxExact", fn := fun _ => fun
  | [d1, d2] => { results := [.lit (.bool true)], args := [d1, d2] }
  | _ => none }
def fnSetArgSbxExactRow : OpenClaim := { program := "ytmcehpoembhnnaa", sum := "7eceef158ffd9391ff21832b6959707121a72237ad654820ce3cf3b00e842e3c", func := "github.com/yuin/gopher-lua/n005_155.FnSetArgSbxExact", spec := "fnSetArgSbxExact", apart := false }
def FnSetArgSbxExactSaid : Prop := fnSetArgSbxExactRow.holds Try.pinned (OpenSpec.ofChange fnSetArgSbxExactSpec)

/-- ITS FALSE NEIGHBOUR: 'it returns false'. Refute it at one input. -/
def fnSetArgSbxExactWrong : ChangeSpec := { name := "fnSetArgSbxExact", fn := fun _ => fun
  | [d1, d2] => { results := [.lit (.bool false)], args := [d1, d2] }
  | _ => none }
def FnSetArgSbxExactWrongFalsely : Prop := fnSetArgSbxExactRow.holds Try.pinned (OpenSpec.ofChange fnSetArgSbxExactWrong)

/-- 'n005_162.FnFunctionTypeBetweenStringAndUserData': WHATEVER THE INPUT: true; the input reads as it did. -/
def fnFunctionTypeBetweenStringAndUserDataSpec : ChangeSpec := { name := "fnFunctionTypeBetweenStringAndUserData", fn := fun _ => fun
  | [d] => { results := [.lit (.bool true)], args := [d] }
  | _ => none }
def fnFunctionTypeBetweenStringAndUserDataRow : OpenClaim := { program := "ytmcehpoembhnnaa", sum := "7eceef158ffd9391ff21832b6959707121a72237ad654820ce3cf3b00e842e3c", func := "github.com/yuin/gopher-lua/n005_162.FnFunctionTypeBetweenStringAndUserData", spec := "fnFunctionTypeBetweenStringAndUserData", apart := false }
def FnFunctionTypeBetweenStringAndUserDataSaid : Prop := fnFunctionTypeBetweenStringAndUserDataRow.holds Try.pinned (OpenSpec.ofChange fnFunctionTypeBetweenStringAndUserDataSpec)

/-- ITS FALSE NEIGHBOUR: 'it returns false'. Refute it at one input. -/
def fnFunctionTypeBetweenStringAndUserDataWrong : ChangeSpec := { name := "fnFunctionTypeBetweenStringAndUserData", fn := fun _ => fun
  | [d] => { results := [.lit (.bool false)], args := [d] }
  | _ => none }
def FnFunctionTypeBetweenStringAndUserDataWrongFalsely : Prop := fnFunctionTypeBetweenStringAndUserDataRow.holds Try.pinned (OpenSpec.ofChange fnFunctionTypeBetweenStringAndUserDataWrong)

/-- 'n005_155.FnGetArgSbxIgnoresHighBitsAndIsMonotone': WHATEVER THE INPUT: true; the input reads as it did. -/
def fnGetArgSbxIgnoresHighBitsAndIsMonotoneSpec : ChangeSpec := { name := "fnGetArgSbxIgnoresHighBitsAndIsMonotone", fn := fun _ => fun
  | [d1, d2] => { results := [.lit (.bool true)], args := [d1, d2] }
  | _ => none }
def fnGetArgSbxIgnoresHighBitsAndIsMonotoneRow : OpenClaim := { program := "ytmcehpoembhnnaa", sum := "7eceef158ffd9391ff21832b6959707121a72237ad654820ce3cf3b00e842e3c", func := "github.com/yuin/gopher-lua/n005_155.FnGetArgSbxIgnoresHighBitsAndIsMonotone", spec := "fnGetArgSbxIgnoresHighBitsAndIsMonotone", apart := false }
def FnGetArgSbxIgnoresHighBitsAndIsMonotoneSaid : Prop := fnGetArgSbxIgnoresHighBitsAndIsMonotoneRow.holds Try.pinned (OpenSpec.ofChange fnGetArgSbxIgnoresHighBitsAndIsMonotoneSpec)

/-- ITS FALSE NEIGHBOUR: 'it returns false'. Refute it at one input. -/
def fnGetArgSbxIgnoresHighBitsAndIsMonotoneWrong : ChangeSpec := { name := "fnGetArgSbxIgnoresHighBitsAndIsMonotone", fn := fun _ => fun
  | [d1, d2] => { results := [.lit (.bool false)], args := [d1, d2] }
  | _ => none }
def FnGetArgSbxIgnoresHighBitsAndIsMonotoneWrongFalsely : Prop := fnGetArgSbxIgnoresHighBitsAndIsMonotoneRow.holds Try.pinned (OpenSpec.ofChange fnGetArgSbxIgnoresHighBitsAndIsMonotoneWrong)

/-- 'n005_155.FnSetArgBxRoundTrip': WHATEVER THE INPUT: true; the input reads as it did. -/
def fnSetArgBxRoundTripSpec : ChangeSpec := { name := "fnSetArgBxRoundTrip", fn := fun _ => fun
  | [d1, d2, d3] => { results := [.lit (.bool true)], args := [d1, d2, d3] }
  | _ => none }
def fnSetArgBxRoundTripRow : OpenClaim := { program := "ytmcehpoembhnnaa", sum := "7eceef158ffd9391ff21832b6959707121a72237ad654820ce3cf3b00e842e3c", func := "github.com/yuin/gopher-lua/n005_155.FnSetArgBxRoundTrip", spec := "fnSetArgBxRoundTrip", apart := false }
def FnSetArgBxRoundTripSaid : Prop := fnSetArgBxRoundTripRow.holds Try.pinned (OpenSpec.ofChange fnSetArgBxRoundTripSpec)

/-- ITS FALSE NEIGHBOUR: 'it returns false'. Refute it at one input. -/
def fnSetArgBxRoundTripWrong : ChangeSpec := { name := "fnSetArgBxRoundTrip", fn := fun _ => fun
  | [d1, d2, d3] => { results := [.lit (.bool false)], args := [d1, d2, d3] }
  | _ => none }
def FnSetArgBxRoundTripWrongFalsely : Prop := fnSetArgBxRoundTripRow.holds Try.pinned (OpenSpec.ofChange fnSetArgBxRoundTripWrong)

/-- 'n005_162.FnTableTypeDistinctFromFunctionAndThread': WHATEVER THE INPUT: true; the input reads as it did. -/
def fnTableTypeDistinctFromFunctionAndThreadSpec : ChangeSpec := { name := "fnTableTypeDistinctFromFunctionAndThread", fn := fun _ => fun
  | [d] => { results := [.lit (.bool true)], args := [d] }
  | _ => none }
def fnTableTypeDistinctFromFunctionAndThreadRow : OpenClaim := { program := "ytmcehpoembhnnaa", sum := "7eceef158ffd9391ff21832b6959707121a72237ad654820ce3cf3b00e842e3c", func := "github.com/yuin/gopher-lua/n005_162.FnTableTypeDistinctFromFunctionAndThread", spec := "fnTableTypeDistinctFromFunctionAndThread", apart := false }
def FnTableTypeDistinctFromFunctionAndThreadSaid : Prop := fnTableTypeDistinctFromFunctionAndThreadRow.holds Try.pinned (OpenSpec.ofChange fnTableTypeDistinctFromFunctionAndThreadSpec)

/-- ITS FALSE NEIGHBOUR: 'it returns false'. Refute it at one input. -/
def fnTableTypeDistinctFromFunctionAndThreadWrong : ChangeSpec := { name := "fnTableTypeDistinctFromFunctionAndThread", fn := fun _ => fun
  | [d] => { results := [.lit (.bool false)], args := [d] }
  | _ => none }
def FnTableTypeDistinctFromFunctionAndThreadWrongFalsely : Prop := fnTableTypeDistinctFromFunctionAndThreadRow.holds Try.pinned (OpenSpec.ofChange fnTableTypeDistinctFromFunctionAndThreadWrong)

/-- 'n005_155.FnSetArgSbxRoundTrip': WHATEVER THE INPUT: true; the input reads as it did. -/
def fnSetArgSbxRoundTripSpec : ChangeSpec := { name := "fnSetArgSbxRoundTrip", fn := fun _ => fun
  | [d1, d2, d3] => { results := [.lit (.bool true)], args := [d1, d2, d3] }
  | _ => none }
def fnSetArgSbxRoundTripRow : OpenClaim := { program := "ytmcehpoembhnnaa", sum := "7eceef158ffd9391ff21832b6959707121a72237ad654820ce3cf3b00e842e3c", func := "github.com/yuin/gopher-lua/n005_155.FnSetArgSbxRoundTrip", spec := "fnSetArgSbxRoundTrip", apart := false }
def FnSetArgSbxRoundTripSaid : Prop := fnSetArgSbxRoundTripRow.holds Try.pinned (OpenSpec.ofChange fnSetArgSbxRoundTripSpec)

/-- ITS FALSE NEIGHBOUR: 'it returns false'. Refute it at one input. -/
def fnSetArgSbxRoundTripWrong : ChangeSpec := { name := "fnSetArgSbxRoundTrip", fn := fun _ => fun
  | [d1, d2, d3] => { results := [.lit (.bool false)], args := [d1, d2, d3] }
  | _ => none }
def FnSetArgSbxRoundTripWrongFalsely : Prop := fnSetArgSbxRoundTripRow.holds Try.pinned (OpenSpec.ofChange fnSetArgSbxRoundTripWrong)

/- THE SECOND FORM. 'bulk': how many values and letters a reading holds, each counted each time it is reached (what is shared counts as often as it is met; a slice's spare places count too). A statement '..UptoSaid' is the law's where the arguments, and the package variables that the reading takes, are together of bulk at most 1048576: NARROWER than '..Said'. Prove '..Said' where nothing that the law and all that it calls make is longer than what came in: it says more and counts as full. Else prove '..UptoSaid'. A law counts once. -/
mutual
def uptoBulk {H : Type} : DataW H → Nat
  | .lit (.string bytes) => bytes.length + 1
  | .lit _ => 1
  | .nil => 1
  | .ptr d => uptoBulk d + 1
  | .slice elems spare => uptoBulkAll elems + uptoBulkAll spare + 1
  | .agg parts => uptoBulkAll parts + 1
  | .iface _ d => uptoBulk d + 1
  | .map entries => uptoBulkEntries entries + 1
  | .held _ => 1
def uptoBulkAll {H : Type} : List (DataW H) → Nat
  | [] => 0
  | d :: r => uptoBulk d + uptoBulkAll r
def uptoBulkEntries {H : Type} : List (Lit × DataW H) → Nat
  | [] => 0
  | x :: r => uptoBulkEntry x + uptoBulkEntries r
def uptoBulkEntry {H : Type} : Lit × DataW H → Nat
  | (.string bytes, d) => bytes.length + uptoBulk d + 1
  | (_, d) => uptoBulk d + 1
 end
def uptoSmall : (H : Type) → List (DataW H) → Bool := fun _ ds => decide (uptoBulkAll ds ≤ 1048576)
def OpenSpec.upto (s : _root_.Go.ChangeSpec) : _root_.Go.OpenSpec := { _root_.Go.OpenSpec.ofChange s with cond := some uptoSmall }

/-- 'n005_155.FnGetArgBxJoinsCAndB', WHERE WHAT IT READS IS OF BULK AT MOST 1048576: true; the input reads as it did. -/
def fnGetArgBxJoinsCAndBUptoRow : OpenClaim := { program := "ytmcehpoembhnnaa", sum := "7eceef158ffd9391ff21832b6959707121a72237ad654820ce3cf3b00e842e3c", func := "github.com/yuin/gopher-lua/n005_155.FnGetArgBxJoinsCAndB", spec := "fnGetArgBxJoinsCAndB", apart := false, narrowed := true }
def FnGetArgBxJoinsCAndBUptoSaid : Prop := fnGetArgBxJoinsCAndBUptoRow.holds Try.pinned (OpenSpec.upto fnGetArgBxJoinsCAndBSpec)

/-- 'n005_155.FnSetArgBxExact', WHERE WHAT IT READS IS OF BULK AT MOST 1048576: true; the input reads as it did. -/
def fnSetArgBxExactUptoRow : OpenClaim := { program := "ytmcehpoembhnnaa", sum := "7eceef158ffd9391ff21832b6959707121a72237ad654820ce3cf3b00e842e3c", func := "github.com/yuin/gopher-lua/n005_155.FnSetArgBxExact", spec := "fnSetArgBxExact", apart := false, narrowed := true }
def FnSetArgBxExactUptoSaid : Prop := fnSetArgBxExactUptoRow.holds Try.pinned (OpenSpec.upto fnSetArgBxExactSpec)

/-- 'n005_155.FnGetArgBxIsLow18Bits', WHERE WHAT IT READS IS OF BULK AT MOST 1048576: true; the input reads as it did. -/
def fnGetArgBxIsLow18BitsUptoRow : OpenClaim := { program := "ytmcehpoembhnnaa", sum := "7eceef158ffd9391ff21832b6959707121a72237ad654820ce3cf3b00e842e3c", func := "github.com/yuin/gopher-lua/n005_155.FnGetArgBxIsLow18Bits", spec := "fnGetArgBxIsLow18Bits", apart := false, narrowed := true }
def FnGetArgBxIsLow18BitsUptoSaid : Prop := fnGetArgBxIsLow18BitsUptoRow.holds Try.pinned (OpenSpec.upto fnGetArgBxIsLow18BitsSpec)

/-- 'n005_155.FnGetArgSbxExact', WHERE WHAT IT READS IS OF BULK AT MOST 1048576: true; the input reads as it did. -/
def fnGetArgSbxExactUptoRow : OpenClaim := { program := "ytmcehpoembhnnaa", sum := "7eceef158ffd9391ff21832b6959707121a72237ad654820ce3cf3b00e842e3c", func := "github.com/yuin/gopher-lua/n005_155.FnGetArgSbxExact", spec := "fnGetArgSbxExact", apart := false, narrowed := true }
def FnGetArgSbxExactUptoSaid : Prop := fnGetArgSbxExactUptoRow.holds Try.pinned (OpenSpec.upto fnGetArgSbxExactSpec)

/-- 'n005_155.FnSetArgSbxExact', WHERE WHAT IT READS IS OF BULK AT MOST 1048576: true; the input reads as it did. -/
def fnSetArgSbxExactUptoRow : OpenClaim := { program := "ytmcehpoembhnnaa", sum := "7eceef158ffd9391ff21832b6959707121a72237ad654820ce3cf3b00e842e3c", func := "github.com/yuin/gopher-lua/n005_155.FnSetArgSbxExact", spec := "fnSetArgSbxExact", apart := false, narrowed := true }
def FnSetArgSbxExactUptoSaid : Prop := fnSetArgSbxExactUptoRow.holds Try.pinned (OpenSpec.upto fnSetArgSbxExactSpec)

/-- 'n005_162.FnFunctionTypeBetweenStringAndUserData', WHERE WHAT IT READS IS OF BULK AT MOST 1048576: true; the input reads as it did. -/
def fnFunctionTypeBetweenStringAndUserDataUptoRow : OpenClaim := { program := "ytmcehpoembhnnaa", sum := "7eceef158ffd9391ff21832b6959707121a72237ad654820ce3cf3b00e842e3c", func := "github.com/yuin/gopher-lua/n005_162.FnFunctionTypeBetweenStringAndUserData", spec := "fnFunctionTypeBetweenStringAndUserData", apart := false, narrowed := true }
def FnFunctionTypeBetweenStringAndUserDataUptoSaid : Prop := fnFunctionTypeBetweenStringAndUserDataUptoRow.holds Try.pinned (OpenSpec.upto fnFunctionTypeBetweenStringAndUserDataSpec)

/-- 'n005_155.FnGetArgSbxIgnoresHighBitsAndIsMonotone', WHERE WHAT IT READS IS OF BULK AT MOST 1048576: true; the input reads as it did. -/
def fnGetArgSbxIgnoresHighBitsAndIsMonotoneUptoRow : OpenClaim := { program := "ytmcehpoembhnnaa", sum := "7eceef158ffd9391ff21832b6959707121a72237ad654820ce3cf3b00e842e3c", func := "github.com/yuin/gopher-lua/n005_155.FnGetArgSbxIgnoresHighBitsAndIsMonotone", spec := "fnGetArgSbxIgnoresHighBitsAndIsMonotone", apart := false, narrowed := true }
def FnGetArgSbxIgnoresHighBitsAndIsMonotoneUptoSaid : Prop := fnGetArgSbxIgnoresHighBitsAndIsMonotoneUptoRow.holds Try.pinned (OpenSpec.upto fnGetArgSbxIgnoresHighBitsAndIsMonotoneSpec)

/-- 'n005_155.FnSetArgBxRoundTrip', WHERE WHAT IT READS IS OF BULK AT MOST 1048576: true; the input reads as it did. -/
def fnSetArgBxRoundTripUptoRow : OpenClaim := { program := "ytmcehpoembhnnaa", sum := "7eceef158ffd9391ff21832b6959707121a72237ad654820ce3cf3b00e842e3c", func := "github.com/yuin/gopher-lua/n005_155.FnSetArgBxRoundTrip", spec := "fnSetArgBxRoundTrip", apart := false, narrowed := true }
def FnSetArgBxRoundTripUptoSaid : Prop := fnSetArgBxRoundTripUptoRow.holds Try.pinned (OpenSpec.upto fnSetArgBxRoundTripSpec)

/-- 'n005_162.FnTableTypeDistinctFromFunctionAndThread', WHERE WHAT IT READS IS OF BULK AT MOST 1048576: true; the input reads as it did. -/
def fnTableTypeDistinctFromFunctionAndThreadUptoRow : OpenClaim := { program := "ytmcehpoembhnnaa", sum := "7eceef158ffd9391ff21832b6959707121a72237ad654820ce3cf3b00e842e3c", func := "github.com/yuin/gopher-lua/n005_162.FnTableTypeDistinctFromFunctionAndThread", spec := "fnTableTypeDistinctFromFunctionAndThread", apart := false, narrowed := true }
def FnTableTypeDistinctFromFunctionAndThreadUptoSaid : Prop := fnTableTypeDistinctFromFunctionAndThreadUptoRow.holds Try.pinned (OpenSpec.upto fnTableTypeDistinctFromFunctionAndThreadSpec)

/-- 'n005_155.FnSetArgSbxRoundTrip', WHERE WHAT IT READS IS OF BULK AT MOST 1048576: true; the input reads as it did. -/
def fnSetArgSbxRoundTripUptoRow : OpenClaim := { program := "ytmcehpoembhnnaa", sum := "7eceef158ffd9391ff21832b6959707121a72237ad654820ce3cf3b00e842e3c", func := "github.com/yuin/gopher-lua/n005_155.FnSetArgSbxRoundTrip", spec := "fnSetArgSbxRoundTrip", apart := false, narrowed := true }
def FnSetArgSbxRoundTripUptoSaid : Prop := fnSetArgSbxRoundTripUptoRow.holds Try.pinned (OpenSpec.upto fnSetArgSbxRoundTripSpec)

end Rows
end Go.Proofs.Ytmcehpoembhnnaa
