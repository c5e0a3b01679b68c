/-
  No cell of these rows narrows 'for every input' (looked for: loops, veiled, ifaces, maps, wideKeys, modest, calm, conditions, laid).
  DERIVED. THE GIVEN ROWS OF THIS SEAT. 8 by the template 'for every input the law returns true; each argument reads behind the call as it read before'; 0 by the template 'total and deterministic' (their statements: YtmcpjhkkdjhboaaTotals.lean).
  GIVEN WITH THE SEED: the statements are not yours to turn. If you find one false, say at which input.
  Laid BY PROGRAM, IN A SANDBOX (cutbox-rows.mjs): the forced cells as the released guide's own fill.sh prints them over the translation 0d28a51be5e63f42… (all of the seat's roots in one cut). By AI agents, Wed Nov 11 2026. No macro, syntax, notation, axiom, sorry.
-/
import Derived.Test.YtmcpjhkkdjhboaaChecked
import GoSem.Claim
import GoSem.ClaimJoined
import GoSem.ClaimMapViews
import Derived.JoinedTies
import Derived.KernelRfl
namespace Go.Proofs.Ytmcpjhkkdjhboaa
/- THE CELL 'sum', in the pinned program and in every row, IS THE sha256 OF THE DUMP (.gsa) THAT YtmcpjhkkdjhboaaProg.lean LOADS. Nothing in Lean hashes anything: it is a label: what it is worth is what the hold of that sum in a sandbox is worth. -/
noncomputable def Try.pinned : Pinned := { name := "ytmcpjhkkdjhboaa", sum := "0d28a51be5e63f42ada609ada63fefeeb467ead1908f5bbf653948bc7527852c", checked := Try.checked }
namespace Rows
def none {H : Type} : Left H := { results := [], args := [] }

/-- 'n005_36.FnCodeStoreLastPCIsAddsMinusPopsMinusOne': WHATEVER THE INPUT: true; the input reads as it did. -/
def fnCodeStoreLastPCIsAddsMinusPopsMinusOneSpec : ChangeSpec := { name := "fnCodeStoreLastPCIsAddsMinusPopsMinusOne", fn := fun _ => fun
  | [d1, d2, d3] => { results := [.lit (.bool true)], args := [d1, d2, d3] }
  | _ => none }
def fnCodeStoreLastPCIsAddsMinusPopsMinusOneRow : OpenClaim := { program := "ytmcpjhkkdjhboaa", sum := "0d28a51be5e63f42ada609ada63fefeeb467ead1908f5bbf653948bc7527852c", func := "github.com/yuin/gopher-lua/n005_36.FnCodeStoreLastPCIsAddsMinusPopsMinusOne", spec := "fnCodeStoreLastPCIsAddsMinusPopsMinusOne", apart := false }
def FnCodeStoreLastPCIsAddsMinusPopsMinusOneSaid : Prop := fnCodeStoreLastPCIsAddsMinusPopsMinusOneRow.holds Try.pinned (OpenSpec.ofChange fnCodeStoreLastPCIsAddsMinusPopsMinusOneSpec)

/-- ITS FALSE NEIGHBOUR: 'it returns false'. Refute it at one input. -/
def fnCodeStoreLastPCIsAddsMinusPopsMinusOneWrong : ChangeSpec := { name := "fnCodeStoreLastPCIsAddsMinusPopsMinusOne", fn := fun _ => fun
  | [d1, d2, d3] => { results := [.lit (.bool false)], args := [d1, d2, d3] }
  | _ => none }
def FnCodeStoreLastPCIsAddsMinusPopsMinusOneWrongFalsely : Prop := fnCodeStoreLastPCIsAddsMinusPopsMinusOneRow.holds Try.pinned (OpenSpec.ofChange fnCodeStoreLastPCIsAddsMinusPopsMinusOneWrong)

/-- 'n005_36.FnCodeStoreListIsStackOfAdds': WHATEVER THE INPUT: true; the input reads as it did. -/
def fnCodeStoreListIsStackOfAddsSpec : ChangeSpec := { name := "fnCodeStoreListIsStackOfAdds", fn := fun _ => fun
  | [d1, d2, d3] => { results := [.lit (.bool true)], args := [d1, d2, d3] }
  | _ => none }
def fnCodeStoreListIsStackOfAddsRow : OpenClaim := { program := "ytmcpjhkkdjhboaa", sum := "0d28a51be5e63f42ada609ada63fefeeb467ead1908f5bbf653948bc7527852c", func := "github.com/yuin/gopher-lua/n005_36.FnCodeStoreListIsStackOfAdds", spec := "fnCodeStoreListIsStackOfAdds", apart := false }
def FnCodeStoreListIsStackOfAddsSaid : Prop := fnCodeStoreListIsStackOfAddsRow.holds Try.pinned (OpenSpec.ofChange fnCodeStoreListIsStackOfAddsSpec)

/-- ITS FALSE NEIGHBOUR: 'it returns false'. Refute it at one input. -/
def fnCodeStoreListIsStackOfAddsWrong : ChangeSpec := { name := "fnCodeStoreListIsStackOfAdds", fn := fun _ => fun
  | [d1, d2, d3] => { results := [.lit (.bool false)], args := [d1, d2, d3] }
  | _ => none }
def FnCodeStoreListIsStackOfAddsWrongFalsely : Prop := fnCodeStoreListIsStackOfAddsRow.holds Try.pinned (OpenSpec.ofChange fnCodeStoreListIsStackOfAddsWrong)

/-- 'n005_36.FnCodeStorePosListIsStackOfLines': WHATEVER THE INPUT: true; the input reads as it did. -/
def fnCodeStorePosListIsStackOfLinesSpec : ChangeSpec := { name := "fnCodeStorePosListIsStackOfLines", fn := fun _ => fun
  | [d1, d2, d3] => { results := [.lit (.bool true)], args := [d1, d2, d3] }
  | _ => none }
def fnCodeStorePosListIsStackOfLinesRow : OpenClaim := { program := "ytmcpjhkkdjhboaa", sum := "0d28a51be5e63f42ada609ada63fefeeb467ead1908f5bbf653948bc7527852c", func := "github.com/yuin/gopher-lua/n005_36.FnCodeStorePosListIsStackOfLines", spec := "fnCodeStorePosListIsStackOfLines", apart := false }
def FnCodeStorePosListIsStackOfLinesSaid : Prop := fnCodeStorePosListIsStackOfLinesRow.holds Try.pinned (OpenSpec.ofChange fnCodeStorePosListIsStackOfLinesSpec)

/-- ITS FALSE NEIGHBOUR: 'it returns false'. Refute it at one input. -/
def fnCodeStorePosListIsStackOfLinesWrong : ChangeSpec := { name := "fnCodeStorePosListIsStackOfLines", fn := fun _ => fun
  | [d1, d2, d3] => { results := [.lit (.bool false)], args := [d1, d2, d3] }
  | _ => none }
def FnCodeStorePosListIsStackOfLinesWrongFalsely : Prop := fnCodeStorePosListIsStackOfLinesRow.holds Try.pinned (OpenSpec.ofChange fnCodeStorePosListIsStackOfLinesWrong)

/-- 'n005_36.FnCodeStoreAtReadsStackModel': WHATEVER THE INPUT: true; the input reads as it did. -/
def fnCodeStoreAtReadsStackModelSpec : ChangeSpec := { name := "fnCodeStoreAtReadsStackModel", fn := fun _ => fun
  | [d1, d2, d3] => { results := [.lit (.bool true)], args := [d1, d2, d3] }
  | _ => none }
def fnCodeStoreAtReadsStackModelRow : OpenClaim := { program := "ytmcpjhkkdjhboaa", sum := "0d28a51be5e63f42ada609ada63fefeeb467ead1908f5bbf653948bc7527852c", func := "github.com/yuin/gopher-lua/n005_36.FnCodeStoreAtReadsStackModel", spec := "fnCodeStoreAtReadsStackModel", apart := false }
def FnCodeStoreAtReadsStackModelSaid : Prop := fnCodeStoreAtReadsStackModelRow.holds Try.pinned (OpenSpec.ofChange fnCodeStoreAtReadsStackModelSpec)

/-- ITS FALSE NEIGHBOUR: 'it returns false'. Refute it at one input. -/
def fnCodeStoreAtReadsStackModelWrong : ChangeSpec := { name := "fnCodeStoreAtReadsStackModel", fn := fun _ => fun
  | [d1, d2, d3] => { results := [.lit (.bool false)], args := [d1, d2, d3] }
  | _ => none }
def FnCodeStoreAtReadsStackModelWrongFalsely : Prop := fnCodeStoreAtReadsStackModelRow.holds Try.pinned (OpenSpec.ofChange fnCodeStoreAtReadsStackModelWrong)

/-- 'n005_36.FnCodeStorePosListAddExtendsPrefix': WHATEVER THE INPUT: true; the input reads as it did. -/
def fnCodeStorePosListAddExtendsPrefixSpec : ChangeSpec := { name := "fnCodeStorePosListAddExtendsPrefix", fn := fun _ => fun
  | [d1, d2, d3, d4, d5] => { results := [.lit (.bool true)], args := [d1, d2, d3, d4, d5] }
  | _ => none }
def fnCodeStorePosListAddExtendsPrefixRow : OpenClaim := { program := "ytmcpjhkkdjhboaa", sum := "0d28a51be5e63f42ada609ada63fefeeb467ead1908f5bbf653948bc7527852c", func := "github.com/yuin/gopher-lua/n005_36.FnCodeStorePosListAddExtendsPrefix", spec := "fnCodeStorePosListAddExtendsPrefix", apart := false }
def FnCodeStorePosListAddExtendsPrefixSaid : Prop := fnCodeStorePosListAddExtendsPrefixRow.holds Try.pinned (OpenSpec.ofChange fnCodeStorePosListAddExtendsPrefixSpec)

/-- ITS FALSE NEIGHBOUR: 'it returns false'. Refute it at one input. -/
def fnCodeStorePosListAddExtendsPrefixWrong : ChangeSpec := { name := "fnCodeStorePosListAddExtendsPrefix", fn := fun _ => fun
  | [d1, d2, d3, d4, d5] => { results := [.lit (.bool false)], args := [d1, d2, d3, d4, d5] }
  | _ => none }
def FnCodeStorePosListAddExtendsPrefixWrongFalsely : Prop := fnCodeStorePosListAddExtendsPrefixRow.holds Try.pinned (OpenSpec.ofChange fnCodeStorePosListAddExtendsPrefixWrong)

/-- 'n005_36.FnCodeStoreLastPCTracksLengthsEveryStep': WHATEVER THE INPUT: true; the input reads as it did. -/
def fnCodeStoreLastPCTracksLengthsEveryStepSpec : ChangeSpec := { name := "fnCodeStoreLastPCTracksLengthsEveryStep", fn := fun _ => fun
  | [d1, d2, d3] => { results := [.lit (.bool true)], args := [d1, d2, d3] }
  | _ => none }
def fnCodeStoreLastPCTracksLengthsEveryStepRow : OpenClaim := { program := "ytmcpjhkkdjhboaa", sum := "0d28a51be5e63f42ada609ada63fefeeb467ead1908f5bbf653948bc7527852c", func := "github.com/yuin/gopher-lua/n005_36.FnCodeStoreLastPCTracksLengthsEveryStep", spec := "fnCodeStoreLastPCTracksLengthsEveryStep", apart := false }
def FnCodeStoreLastPCTracksLengthsEveryStepSaid : Prop := fnCodeStoreLastPCTracksLengthsEveryStepRow.holds Try.pinned (OpenSpec.ofChange fnCodeStoreLastPCTracksLengthsEveryStepSpec)

/-- ITS FALSE NEIGHBOUR: 'it returns false'. Refute it at one input. -/
def fnCodeStoreLastPCTracksLengthsEveryStepWrong : ChangeSpec := { name := "fnCodeStoreLastPCTracksLengthsEveryStep", fn := fun _ => fun
  | [d1, d2, d3] => { results := [.lit (.bool false)], args := [d1, d2, d3] }
  | _ => none }
def FnCodeStoreLastPCTracksLengthsEveryStepWrongFalsely : Prop := fnCodeStoreLastPCTracksLengthsEveryStepRow.holds Try.pinned (OpenSpec.ofChange fnCodeStoreLastPCTracksLengthsEveryStepWrong)

/-- 'n005_36.FnCodeStoreListPopThenReAddRestores': WHATEVER THE INPUT: true; the input reads as it did. -/
def fnCodeStoreListPopThenReAddRestoresSpec : ChangeSpec := { name := "fnCodeStoreListPopThenReAddRestores", fn := fun _ => fun
  | [d1, d2, d3] => { results := [.lit (.bool true)], args := [d1, d2, d3] }
  | _ => none }
def fnCodeStoreListPopThenReAddRestoresRow : OpenClaim := { program := "ytmcpjhkkdjhboaa", sum := "0d28a51be5e63f42ada609ada63fefeeb467ead1908f5bbf653948bc7527852c", func := "github.com/yuin/gopher-lua/n005_36.FnCodeStoreListPopThenReAddRestores", spec := "fnCodeStoreListPopThenReAddRestores", apart := false }
def FnCodeStoreListPopThenReAddRestoresSaid : Prop := fnCodeStoreListPopThenReAddRestoresRow.holds Try.pinned (OpenSpec.ofChange fnCodeStoreListPopThenReAddRestoresSpec)

/-- ITS FALSE NEIGHBOUR: 'it returns false'. Refute it at one input. -/
def fnCodeStoreListPopThenReAddRestoresWrong : ChangeSpec := { name := "fnCodeStoreListPopThenReAddRestores", fn := fun _ => fun
  | [d1, d2, d3] => { results := [.lit (.bool false)], args := [d1, d2, d3] }
  | _ => none }
def FnCodeStoreListPopThenReAddRestoresWrongFalsely : Prop := fnCodeStoreListPopThenReAddRestoresRow.holds Try.pinned (OpenSpec.ofChange fnCodeStoreListPopThenReAddRestoresWrong)

/-- 'n005_36.FnCodeStoreAtAgreesWithLast': WHATEVER THE INPUT: true; the input reads as it did. -/
def fnCodeStoreAtAgreesWithLastSpec : ChangeSpec := { name := "fnCodeStoreAtAgreesWithLast", fn := fun _ => fun
  | [d1, d2, d3] => { results := [.lit (.bool true)], args := [d1, d2, d3] }
  | _ => none }
def fnCodeStoreAtAgreesWithLastRow : OpenClaim := { program := "ytmcpjhkkdjhboaa", sum := "0d28a51be5e63f42ada609ada63fefeeb467ead1908f5bbf653948bc7527852c", func := "github.com/yuin/gopher-lua/n005_36.FnCodeStoreAtAgreesWithLast", spec := "fnCodeStoreAtAgreesWithLast", apart := false }
def FnCodeStoreAtAgreesWithLastSaid : Prop := fnCodeStoreAtAgreesWithLastRow.holds Try.pinned (OpenSpec.ofChange fnCodeStoreAtAgreesWithLastSpec)

/-- ITS FALSE NEIGHBOUR: 'it returns false'. Refute it at one input. -/
def fnCodeStoreAtAgreesWithLastWrong : ChangeSpec := { name := "fnCodeStoreAtAgreesWithLast", fn := fun _ => fun
  | [d1, d2, d3] => { results := [.lit (.bool false)], args := [d1, d2, d3] }
  | _ => none }
def FnCodeStoreAtAgreesWithLastWrongFalsely : Prop := fnCodeStoreAtAgreesWithLastRow.holds Try.pinned (OpenSpec.ofChange fnCodeStoreAtAgreesWithLastWrong)

/- THE SECOND FORM. 'bulk': how many values and letters a reading holds, each counted each time it is reached (what is shared counts as often as it is met; a slice's spare places count too). A statement '..UptoSaid' is the law's where the arguments, and the package variables that the reading takes, are together of bulk at most 1048576: NARROWER than '..Said'. Prove '..Said' where nothing that the law and all that it calls make is longer than what came in: it says more and counts as full. Else prove '..UptoSaid'. A law counts once. -/
mutual
def uptoBulk {H : Type} : DataW H → Nat
  | .lit (.string bytes) => bytes.length + 1
  | .lit _ => 1
  | .nil => 1
  | .ptr d => uptoBulk d + 1
  | .slice elems spare => uptoBulkAll elems + uptoBulkAll spare + 1
  | .agg parts => uptoBulkAll parts + 1
  | .iface _ d => uptoBulk d + 1
  | .map entries => uptoBulkEntries entries + 1
  | .held _ => 1
def uptoBulkAll {H : Type} : List (DataW H) → Nat
  | [] => 0
  | d :: r => uptoBulk d + uptoBulkAll r
def uptoBulkEntries {H : Type} : List (Lit × DataW H) → Nat
  | [] => 0
  | x :: r => uptoBulkEntry x + uptoBulkEntries r
def uptoBulkEntry {H : Type} : Lit × DataW H → Nat
  | (.string bytes, d) => bytes.length + uptoBulk d + 1
  | (_, d) => uptoBulk d + 1
 end
def uptoSmall : (H : Type) → List (DataW H) → Bool := fun _ ds => decide (uptoBulkAll ds ≤ 1048576)
def OpenSpec.upto (s : _root_.Go.ChangeSpec) : _root_.Go.OpenSpec := { _root_.Go.OpenSpec.ofChange s with cond := some uptoSmall }

/-- 'n005_36.FnCodeStoreLastPCIsAddsMinusPopsMinusOne', WHERE WHAT IT READS IS OF BULK AT MOST 1048576: true; the input reads as it did. -/
def fnCodeStoreLastPCIsAddsMinusPopsMinusOneUptoRow : OpenClaim := { program := "ytmcpjhkkdjhboaa", sum := "0d28a51be5e63f42ada609ada63fefeeb467ead1908f5bbf653948bc7527852c", func := "github.com/yuin/gopher-lua/n005_36.FnCodeStoreLastPCIsAddsMinusPopsMinusOne", spec := "fnCodeStoreLastPCIsAddsMinusPopsMinusOne", apart := false, narrowed := true }
def FnCodeStoreLastPCIsAddsMinusPopsMinusOneUptoSaid : Prop := fnCodeStoreLastPCIsAddsMinusPopsMinusOneUptoRow.holds Try.pinned (OpenSpec.upto fnCodeStoreLastPCIsAddsMinusPopsMinusOneSpec)

/-- 'n005_36.FnCodeStoreListIsStackOfAdds', WHERE WHAT IT READS IS OF BULK AT MOST 1048576: true; the input reads as it did. -/
def fnCodeStoreListIsStackOfAddsUptoRow : OpenClaim := { program := "ytmcpjhkkdjhboaa", sum := "0d28a51be5e63f42ada609ada63fefeeb467ead1908f5bbf653948bc7527852c", func := "github.com/yuin/gopher-lua/n005_36.FnCodeStoreListIsStackOfAdds", spec := "fnCodeStoreListIsStackOfAdds", apart := false, narrowed := true }
def FnCodeStoreListIsStackOfAddsUptoSaid : Prop := fnCodeStoreListIsStackOfAddsUptoRow.holds Try.pinned (OpenSpec.upto fnCodeStoreListIsStackOfAddsSpec)

/-- 'n005_36.FnCodeStorePosListIsStackOfLines', WHERE WHAT IT READS IS OF BULK AT MOST 1048576: true; the input reads as it did. -/
def fnCodeStorePosListIsStackOfLinesUptoRow : OpenClaim := { program := "ytmcpjhkkdjhboaa", sum := "0d28a51be5e63f42ada609ada63fefeeb467ead1908f5bbf653948bc7527852c", func := "github.com/yuin/gopher-lua/n005_36.FnCodeStorePosListIsStackOfLines", spec := "fnCodeStorePosListIsStackOfLines", apart := false, narrowed := true }
def FnCodeStorePosListIsStackOfLinesUptoSaid : Prop := fnCodeStorePosListIsStackOfLinesUptoRow.holds Try.pinned (OpenSpec.upto fnCodeStorePosListIsStackOfLinesSpec)

/-- 'n005_36.FnCodeStoreAtReadsStackModel', WHERE WHAT IT READS IS OF BULK AT MOST 1048576: true; the input reads as it did. -/
def fnCodeStoreAtReadsStackModelUptoRow : OpenClaim := { program := "ytmcpjhkkdjhboaa", sum := "0d28a51be5e63f42ada609ada63fefeeb467ead1908f5bbf653948bc7527852c", func := "github.com/yuin/gopher-lua/n005_36.FnCodeStoreAtReadsStackModel", spec := "fnCodeStoreAtReadsStackModel", apart := false, narrowed := true }
def FnCodeStoreAtReadsStackModelUptoSaid : Prop := fnCodeStoreAtReadsStackModelUptoRow.holds Try.pinned (OpenSpec.upto fnCodeStoreAtReadsStackModelSpec)

/-- 'n005_36.FnCodeStorePosListAddExtendsPrefix', WHERE WHAT IT READS IS OF BULK AT MOST 1048576: true; the input reads as it did. -/
def fnCodeStorePosListAddExtendsPrefixUptoRow : OpenClaim := { program := "ytmcpjhkkdjhboaa", sum := "0d28a51be5e63f42ada609ada63fefeeb467ead1908f5bbf653948bc7527852c", func := "github.com/yuin/gopher-lua/n005_36.FnCodeStorePosListAddExtendsPrefix", spec := "fnCodeStorePosListAddExtendsPrefix", apart := false, narrowed := true }
def FnCodeStorePosListAddExtendsPrefixUptoSaid : Prop := fnCodeStorePosListAddExtendsPrefixUptoRow.holds Try.pinned (OpenSpec.upto fnCodeStorePosListAddExtendsPrefixSpec)

/-- 'n005_36.FnCodeStoreLastPCTracksLengthsEveryStep', WHERE WHAT IT READS IS OF BULK AT MOST 1048576: true; the input reads as it did. -/
def fnCodeStoreLastPCTracksLengthsEveryStepUptoRow : OpenClaim := { program := "ytmcpjhkkdjhboaa", sum := "0d28a51be5e63f42ada609ada63fefeeb467ead1908f5bbf653948bc7527852c", func := "github.com/yuin/gopher-lua/n005_36.FnCodeStoreLastPCTracksLengthsEveryStep", spec := "fnCodeStoreLastPCTracksLengthsEveryStep", apart := false, narrowed := true }
def FnCodeStoreLastPCTracksLengthsEveryStepUptoSaid : Prop := fnCodeStoreLastPCTracksLengthsEveryStepUptoRow.holds Try.pinned (OpenSpec.upto fnCodeStoreLastPCTracksLengthsEveryStepSpec)

/-- 'n005_36.FnCodeStoreListPopThenReAddRestores', WHERE WHAT IT READS IS OF BULK AT MOST 1048576: true; the input reads as it did. -/
def fnCodeStoreListPopThenReAddRestoresUptoRow : OpenClaim := { program := "ytmcpjhkkdjhboaa", sum := "0d28a51be5e63f42ada609ada63fefeeb467ead1908f5bbf653948bc7527852c", func := "github.com/yuin/gopher-lua/n005_36.FnCodeStoreListPopThenReAddRestores", spec := "fnCodeStoreListPopThenReAddRestores", apart := false, narrowed := true }
def FnCodeStoreListPopThenReAddRestoresUptoSaid : Prop := fnCodeStoreListPopThenReAddRestoresUptoRow.holds Try.pinned (OpenSpec.upto fnCodeStoreListPopThenReAddRestoresSpec)

/-- 'n005_36.FnCodeStoreAtAgreesWithLast', WHERE WHAT IT READS IS OF BULK AT MOST 1048576: true; the input reads as it did. -/
def fnCodeStoreAtAgreesWithLastUptoRow : OpenClaim := { program := "ytmcpjhkkdjhboaa", sum := "0d28a51be5e63f42ada609ada63fefeeb467ead1908f5bbf653948bc7527852c", func := "github.com/yuin/gopher-lua/n005_36.FnCodeStoreAtAgreesWithLast", spec := "fnCodeStoreAtAgreesWithLast", apart := false, narrowed := true }
def FnCodeStoreAtAgreesWithLastUptoSaid : Prop := fnCodeStoreAtAgreesWithLastUptoRow.holds Try.pinned (OpenSpec.upto fnCodeStoreAtAgreesWithLastSpec)

end Rows
end Go.Proofs.Ytmcpjhkkdjhboaa
