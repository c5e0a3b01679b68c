/-
  No cell of these rows narrows 'for every input' (looked for: loops, veiled, ifaces, maps, wideKeys, modest, calm, conditions, laid).
  DERIVED. THE GIVEN ROWS OF THIS SEAT. 6 by the template 'for every input the law returns true; each argument reads behind the call as it read before'; 0 by the template 'total and deterministic' (their statements: YtddmpdiidnamkaaTotals.lean).
  GIVEN WITH THE SEED: the statements are not yours to turn. If you find one false, say at which input.
  Laid BY PROGRAM, IN A SANDBOX (cutbox-rows.mjs): the forced cells as the released guide's own fill.sh prints them over the translation a380b052b33ce2dd… (all of the seat's roots in one cut). By AI agents, Wed Nov 11 2026. No macro, syntax, notation, axiom, sorry.
-/
import Derived.Test.YtddmpdiidnamkaaChecked
import GoSem.Claim
import GoSem.ClaimJoined
import GoSem.ClaimMapViews
import Derived.JoinedTies
import Derived.KernelRfl
namespace Go.Proofs.Ytddmpdiidnamkaa
/- THE CELL 'sum', in the pinned program and in every row, IS THE sha256 OF THE DUMP (.gsa) THAT YtddmpdiidnamkaaProg.lean LOADS. Nothing in Lean hashes anything: it is a label: what it is worth is what the hold of that sum in a sandbox is worth. -/
noncomputable def Try.pinned : Pinned := { name := "ytddmpdiidnamkaa", sum := "a380b052b33ce2dda0658356ecef1b71db5c9bf5b2abe594bf603a12b0fdf928", checked := Try.checked }
namespace Rows
def none {H : Type} : Left H := { results := [], args := [] }

/-- 'n005_18.FnRegistryIsFullFreshAndAtLimit': WHATEVER THE INPUT: true; the input reads as it did. -/
def fnRegistryIsFullFreshAndAtLimitSpec : ChangeSpec := { name := "fnRegistryIsFullFreshAndAtLimit", fn := fun _ => fun
  | [d1, d2, d3, d4] => { results := [.lit (.bool true)], args := [d1, d2, d3, d4] }
  | _ => none }
def fnRegistryIsFullFreshAndAtLimitRow : OpenClaim := { program := "ytddmpdiidnamkaa", sum := "a380b052b33ce2dda0658356ecef1b71db5c9bf5b2abe594bf603a12b0fdf928", func := "github.com/yuin/gopher-lua/n005_18.FnRegistryIsFullFreshAndAtLimit", spec := "fnRegistryIsFullFreshAndAtLimit", unfollowed := true, recurses := true, apart := false }
def FnRegistryIsFullFreshAndAtLimitSaid : Prop := fnRegistryIsFullFreshAndAtLimitRow.holds Try.pinned (OpenSpec.ofChange fnRegistryIsFullFreshAndAtLimitSpec)

/-- ITS FALSE NEIGHBOUR: 'it returns false'. Refute it at one input. -/
def fnRegistryIsFullFreshAndAtLimitWrong : ChangeSpec := { name := "fnRegistryIsFullFreshAndAtLimit", fn := fun _ => fun
  | [d1, d2, d3, d4] => { results := [.lit (.bool false)], args := [d1, d2, d3, d4] }
  | _ => none }
def FnRegistryIsFullFreshAndAtLimitWrongFalsely : Prop := fnRegistryIsFullFreshAndAtLimitRow.holds Try.pinned (OpenSpec.ofChange fnRegistryIsFullFreshAndAtLimitWrong)

/-- 'n005_18.FnRegistrySetMatchesSlotModel': WHATEVER THE INPUT: true; the input reads as it did. -/
def fnRegistrySetMatchesSlotModelSpec : ChangeSpec := { name := "fnRegistrySetMatchesSlotModel", fn := fun _ => fun
  | [d1, d2, d3, d4, d5] => { results := [.lit (.bool true)], args := [d1, d2, d3, d4, d5] }
  | _ => none }
def fnRegistrySetMatchesSlotModelRow : OpenClaim := { program := "ytddmpdiidnamkaa", sum := "a380b052b33ce2dda0658356ecef1b71db5c9bf5b2abe594bf603a12b0fdf928", func := "github.com/yuin/gopher-lua/n005_18.FnRegistrySetMatchesSlotModel", spec := "fnRegistrySetMatchesSlotModel", unfollowed := true, recurses := true, apart := false }
def FnRegistrySetMatchesSlotModelSaid : Prop := fnRegistrySetMatchesSlotModelRow.holds Try.pinned (OpenSpec.ofChange fnRegistrySetMatchesSlotModelSpec)

/-- ITS FALSE NEIGHBOUR: 'it returns false'. Refute it at one input. -/
def fnRegistrySetMatchesSlotModelWrong : ChangeSpec := { name := "fnRegistrySetMatchesSlotModel", fn := fun _ => fun
  | [d1, d2, d3, d4, d5] => { results := [.lit (.bool false)], args := [d1, d2, d3, d4, d5] }
  | _ => none }
def FnRegistrySetMatchesSlotModelWrongFalsely : Prop := fnRegistrySetMatchesSlotModelRow.holds Try.pinned (OpenSpec.ofChange fnRegistrySetMatchesSlotModelWrong)

/-- 'n005_18.FnRegistrySetNumberMatchesSlotModel': WHATEVER THE INPUT: true; the input reads as it did. -/
def fnRegistrySetNumberMatchesSlotModelSpec : ChangeSpec := { name := "fnRegistrySetNumberMatchesSlotModel", fn := fun _ => fun
  | [d1, d2, d3, d4, d5] => { results := [.lit (.bool true)], args := [d1, d2, d3, d4, d5] }
  | _ => none }
def fnRegistrySetNumberMatchesSlotModelRow : OpenClaim := { program := "ytddmpdiidnamkaa", sum := "a380b052b33ce2dda0658356ecef1b71db5c9bf5b2abe594bf603a12b0fdf928", func := "github.com/yuin/gopher-lua/n005_18.FnRegistrySetNumberMatchesSlotModel", spec := "fnRegistrySetNumberMatchesSlotModel", unfollowed := true, recurses := true, apart := false }
def FnRegistrySetNumberMatchesSlotModelSaid : Prop := fnRegistrySetNumberMatchesSlotModelRow.holds Try.pinned (OpenSpec.ofChange fnRegistrySetNumberMatchesSlotModelSpec)

/-- ITS FALSE NEIGHBOUR: 'it returns false'. Refute it at one input. -/
def fnRegistrySetNumberMatchesSlotModelWrong : ChangeSpec := { name := "fnRegistrySetNumberMatchesSlotModel", fn := fun _ => fun
  | [d1, d2, d3, d4, d5] => { results := [.lit (.bool false)], args := [d1, d2, d3, d4, d5] }
  | _ => none }
def FnRegistrySetNumberMatchesSlotModelWrongFalsely : Prop := fnRegistrySetNumberMatchesSlotModelRow.holds Try.pinned (OpenSpec.ofChange fnRegistrySetNumberMatchesSlotModelWrong)

/-- 'n005_18.FnRegistrySetDistinctSlotsCommute': WHATEVER THE INPUT: true; the input reads as it did. -/
def fnRegistrySetDistinctSlotsCommuteSpec : ChangeSpec := { name := "fnRegistrySetDistinctSlotsCommute", fn := fun _ => fun
  | [d1, d2, d3, d4, d5, d6, d7] => { results := [.lit (.bool true)], args := [d1, d2, d3, d4, d5, d6, d7] }
  | _ => none }
def fnRegistrySetDistinctSlotsCommuteRow : OpenClaim := { program := "ytddmpdiidnamkaa", sum := "a380b052b33ce2dda0658356ecef1b71db5c9bf5b2abe594bf603a12b0fdf928", func := "github.com/yuin/gopher-lua/n005_18.FnRegistrySetDistinctSlotsCommute", spec := "fnRegistrySetDistinctSlotsCommute", unfollowed := true, recurses := true, apart := false }
def FnRegistrySetDistinctSlotsCommuteSaid : Prop := fnRegistrySetDistinctSlotsCommuteRow.holds Try.pinned (OpenSpec.ofChange fnRegistrySetDistinctSlotsCommuteSpec)

/-- ITS FALSE NEIGHBOUR: 'it returns false'. Refute it at one input. -/
def fnRegistrySetDistinctSlotsCommuteWrong : ChangeSpec := { name := "fnRegistrySetDistinctSlotsCommute", fn := fun _ => fun
  | [d1, d2, d3, d4, d5, d6, d7] => { results := [.lit (.bool false)], args := [d1, d2, d3, d4, d5, d6, d7] }
  | _ => none }
def FnRegistrySetDistinctSlotsCommuteWrongFalsely : Prop := fnRegistrySetDistinctSlotsCommuteRow.holds Try.pinned (OpenSpec.ofChange fnRegistrySetDistinctSlotsCommuteWrong)

/-- 'n005_18.FnRegistrySetNumberAgreesWithSet': WHATEVER THE INPUT: true; the input reads as it did. -/
def fnRegistrySetNumberAgreesWithSetSpec : ChangeSpec := { name := "fnRegistrySetNumberAgreesWithSet", fn := fun _ => fun
  | [d1, d2, d3, d4, d5] => { results := [.lit (.bool true)], args := [d1, d2, d3, d4, d5] }
  | _ => none }
def fnRegistrySetNumberAgreesWithSetRow : OpenClaim := { program := "ytddmpdiidnamkaa", sum := "a380b052b33ce2dda0658356ecef1b71db5c9bf5b2abe594bf603a12b0fdf928", func := "github.com/yuin/gopher-lua/n005_18.FnRegistrySetNumberAgreesWithSet", spec := "fnRegistrySetNumberAgreesWithSet", unfollowed := true, recurses := true, apart := false }
def FnRegistrySetNumberAgreesWithSetSaid : Prop := fnRegistrySetNumberAgreesWithSetRow.holds Try.pinned (OpenSpec.ofChange fnRegistrySetNumberAgreesWithSetSpec)

/-- ITS FALSE NEIGHBOUR: 'it returns false'. Refute it at one input. -/
def fnRegistrySetNumberAgreesWithSetWrong : ChangeSpec := { name := "fnRegistrySetNumberAgreesWithSet", fn := fun _ => fun
  | [d1, d2, d3, d4, d5] => { results := [.lit (.bool false)], args := [d1, d2, d3, d4, d5] }
  | _ => none }
def FnRegistrySetNumberAgreesWithSetWrongFalsely : Prop := fnRegistrySetNumberAgreesWithSetRow.holds Try.pinned (OpenSpec.ofChange fnRegistrySetNumberAgreesWithSetWrong)

/-- 'n005_31.FnRegistryInsertMatchesListInsert': WHATEVER THE INPUT: true; the input reads as it did. -/
def fnRegistryInsertMatchesListInsertSpec : ChangeSpec := { name := "fnRegistryInsertMatchesListInsert", fn := fun _ => fun
  | [d1, d2, d3, d4] => { results := [.lit (.bool true)], args := [d1, d2, d3, d4] }
  | _ => none }
def fnRegistryInsertMatchesListInsertRow : OpenClaim := { program := "ytddmpdiidnamkaa", sum := "a380b052b33ce2dda0658356ecef1b71db5c9bf5b2abe594bf603a12b0fdf928", func := "github.com/yuin/gopher-lua/n005_31.FnRegistryInsertMatchesListInsert", spec := "fnRegistryInsertMatchesListInsert", unfollowed := true, recurses := true, apart := false }
def FnRegistryInsertMatchesListInsertSaid : Prop := fnRegistryInsertMatchesListInsertRow.holds Try.pinned (OpenSpec.ofChange fnRegistryInsertMatchesListInsertSpec)

/-- ITS FALSE NEIGHBOUR: 'it returns false'. Refute it at one input. -/
def fnRegistryInsertMatchesListInsertWrong : ChangeSpec := { name := "fnRegistryInsertMatchesListInsert", fn := fun _ => fun
  | [d1, d2, d3, d4] => { results := [.lit (.bool false)], args := [d1, d2, d3, d4] }
  | _ => none }
def FnRegistryInsertMatchesListInsertWrongFalsely : Prop := fnRegistryInsertMatchesListInsertRow.holds Try.pinned (OpenSpec.ofChange fnRegistryInsertMatchesListInsertWrong)

/- THE SECOND FORM. 'bulk': how many values and letters a reading holds, each counted each time it is reached (what is shared counts as often as it is met; a slice's spare places count too). A statement '..UptoSaid' is the law's where the arguments, and the package variables that the reading takes, are together of bulk at most 1048576: NARROWER than '..Said'. Prove '..Said' where nothing that the law and all that it calls make is longer than what came in: it says more and counts as full. Else prove '..UptoSaid'. A law counts once. -/
mutual
def uptoBulk {H : Type} : DataW H → Nat
  | .lit (.string bytes) => bytes.length + 1
  | .lit _ => 1
  | .nil => 1
  | .ptr d => uptoBulk d + 1
  | .slice elems spare => uptoBulkAll elems + uptoBulkAll spare + 1
  | .agg parts => uptoBulkAll parts + 1
  | .iface _ d => uptoBulk d + 1
  | .map entries => uptoBulkEntries entries + 1
  | .held _ => 1
def uptoBulkAll {H : Type} : List (DataW H) → Nat
  | [] => 0
  | d :: r => uptoBulk d + uptoBulkAll r
def uptoBulkEntries {H : Type} : List (Lit × DataW H) → Nat
  | [] => 0
  | x :: r => uptoBulkEntry x + uptoBulkEntries r
def uptoBulkEntry {H : Type} : Lit × DataW H → Nat
  | (.string bytes, d) => bytes.length + uptoBulk d + 1
  | (_, d) => uptoBulk d + 1
 end
def uptoSmall : (H : Type) → List (DataW H) → Bool := fun _ ds => decide (uptoBulkAll ds ≤ 1048576)
def OpenSpec.upto (s : _root_.Go.ChangeSpec) : _root_.Go.OpenSpec := { _root_.Go.OpenSpec.ofChange s with cond := some uptoSmall }

/-- 'n005_18.FnRegistryIsFullFreshAndAtLimit', WHERE WHAT IT READS IS OF BULK AT MOST 1048576: true; the input reads as it did. -/
def fnRegistryIsFullFreshAndAtLimitUptoRow : OpenClaim := { program := "ytddmpdiidnamkaa", sum := "a380b052b33ce2dda0658356ecef1b71db5c9bf5b2abe594bf603a12b0fdf928", func := "github.com/yuin/gopher-lua/n005_18.FnRegistryIsFullFreshAndAtLimit", spec := "fnRegistryIsFullFreshAndAtLimit", unfollowed := true, recurses := true, apart := false, narrowed := true }
def FnRegistryIsFullFreshAndAtLimitUptoSaid : Prop := fnRegistryIsFullFreshAndAtLimitUptoRow.holds Try.pinned (OpenSpec.upto fnRegistryIsFullFreshAndAtLimitSpec)

/-- 'n005_18.FnRegistrySetMatchesSlotModel', WHERE WHAT IT READS IS OF BULK AT MOST 1048576: true; the input reads as it did. -/
def fnRegistrySetMatchesSlotModelUptoRow : OpenClaim := { program := "ytddmpdiidnamkaa", sum := "a380b052b33ce2dda0658356ecef1b71db5c9bf5b2abe594bf603a12b0fdf928", func := "github.com/yuin/gopher-lua/n005_18.FnRegistrySetMatchesSlotModel", spec := "fnRegistrySetMatchesSlotModel", unfollowed := true, recurses := true, apart := false, narrowed := true }
def FnRegistrySetMatchesSlotModelUptoSaid : Prop := fnRegistrySetMatchesSlotModelUptoRow.holds Try.pinned (OpenSpec.upto fnRegistrySetMatchesSlotModelSpec)

/-- 'n005_18.FnRegistrySetNumberMatchesSlotModel', WHERE WHAT IT READS IS OF BULK AT MOST 1048576: true; the input reads as it did. -/
def fnRegistrySetNumberMatchesSlotModelUptoRow : OpenClaim := { program := "ytddmpdiidnamkaa", sum := "a380b052b33ce2dda0658356ecef1b71db5c9bf5b2abe594bf603a12b0fdf928", func := "github.com/yuin/gopher-lua/n005_18.FnRegistrySetNumberMatchesSlotModel", spec := "fnRegistrySetNumberMatchesSlotModel", unfollowed := true, recurses := true, apart := false, narrowed := true }
def FnRegistrySetNumberMatchesSlotModelUptoSaid : Prop := fnRegistrySetNumberMatchesSlotModelUptoRow.holds Try.pinned (OpenSpec.upto fnRegistrySetNumberMatchesSlotModelSpec)

/-- 'n005_18.FnRegistrySetDistinctSlotsCommute', WHERE WHAT IT READS IS OF BULK AT MOST 1048576: true; the input reads as it did. -/
def fnRegistrySetDistinctSlotsCommuteUptoRow : OpenClaim := { program := "ytddmpdiidnamkaa", sum := "a380b052b33ce2dda0658356ecef1b71db5c9bf5b2abe594bf603a12b0fdf928", func := "github.com/yuin/gopher-lua/n005_18.FnRegistrySetDistinctSlotsCommute", spec := "fnRegistrySetDistinctSlotsCommute", unfollowed := true, recurses := true, apart := false, narrowed := true }
def FnRegistrySetDistinctSlotsCommuteUptoSaid : Prop := fnRegistrySetDistinctSlotsCommuteUptoRow.holds Try.pinned (OpenSpec.upto fnRegistrySetDistinctSlotsCommuteSpec)

/-- 'n005_18.FnRegistrySetNumberAgreesWithSet', WHERE WHAT IT READS IS OF BULK AT MOST 1048576: true; the input reads as it did. -/
def fnRegistrySetNumberAgreesWithSetUptoRow : OpenClaim := { program := "ytddmpdiidnamkaa", sum := "a380b052b33ce2dda0658356ecef1b71db5c9bf5b2abe594bf603a12b0fdf928", func := "github.com/yuin/gopher-lua/n005_18.FnRegistrySetNumberAgreesWithSet", spec := "fnRegistrySetNumberAgreesWithSet", unfollowed := true, recurses := true, apart := false, narrowed := true }
def FnRegistrySetNumberAgreesWithSetUptoSaid : Prop := fnRegistrySetNumberAgreesWithSetUptoRow.holds Try.pinned (OpenSpec.upto fnRegistrySetNumberAgreesWithSetSpec)

/-- 'n005_31.FnRegistryInsertMatchesListInsert', WHERE WHAT IT READS IS OF BULK AT MOST 1048576: true; the input reads as it did. -/
def fnRegistryInsertMatchesListInsertUptoRow : OpenClaim := { program := "ytddmpdiidnamkaa", sum := "a380b052b33ce2dda0658356ecef1b71db5c9bf5b2abe594bf603a12b0fdf928", func := "github.com/yuin/gopher-lua/n005_31.FnRegistryInsertMatchesListInsert", spec := "fnRegistryInsertMatchesListInsert", unfollowed := true, recurses := true, apart := false, narrowed := true }
def FnRegistryInsertMatchesListInsertUptoSaid : Prop := fnRegistryInsertMatchesListInsertUptoRow.holds Try.pinned (OpenSpec.upto fnRegistryInsertMatchesListInsertSpec)

end Rows
end Go.Proofs.Ytddmpdiidnamkaa
