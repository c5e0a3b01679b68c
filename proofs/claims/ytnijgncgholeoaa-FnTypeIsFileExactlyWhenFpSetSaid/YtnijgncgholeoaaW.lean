/-
  The walks through the makers of an lFile and through its Type.
-/
import Derived.Test.YtnijgncgholeoaaRows
import Derived.Test.YtnijgncgholeoaaBase
import Derived.Deep.OwnRows
import Derived.WalkSpells
import Derived.Outline
namespace Go.Proofs.Ytnijgncgholeoaa
open Go.RowKit
set_option linter.unusedVariables false

/-- What a maker leaves: a new block whose first cell is the file's pointer. -/
def Made (w : World) (p : Bool) (e : Ending) (w' : World) : Prop := ∃ d a, e = .returned (.pointer (some ⟨d, 0, none⟩)) ∧ w'.cell? ⟨d, 0, none⟩ = some (.pointer a) ∧ a.isSome = p ∧ Below w.heap.size w w'

theorem type_c (d : Nat) (a : Option Addr) (w : World) (h : w.cell? ⟨d, 0, none⟩ = some (.pointer a)) :
    Calls Try.prog 5 #[.pointer (some ⟨d, 0, none⟩)] w fun e w' => e = .returned (.int .i64 (if a.isSome then 0 else 1)) ∧ w = w' := by
  rcases a with _ | a
  · go_enter Try.func5, Try.ntmps5
    go_wp2_with (go_at_call 9; go_in)
    go_ret
    exact ⟨rfl, rfl⟩
  · go_enter Try.func5, Try.ntmps5
    go_wp2_with (go_at_call 9; go_in)
    go_ret
    exact ⟨rfl, rfl⟩

theorem newFile_c (c : Bool) (w : World) : Calls Try.prog 6 #[.bool c] w (Made w true) := by
  go_enter Try.func6, Try.ntmps6
  go_wp2
  go_ret
  refine ⟨w.heap.size + 1, some ⟨w.heap.size, 0, none⟩, rfl, ?_, rfl, ?_⟩
  · go_simp
  · repeat (first | exact Below.refl _ _ | refine Below.alloc ?_ (by simp <;> omega) _)

theorem newProc_c (s : ByteArray) (c : Bool) (w : World) : Calls Try.prog 8 #[.string s, .bool c] w (Made w false) := by
  go_enter Try.func8, Try.ntmps8
  go_wp2
  go_ret
  refine ⟨w.heap.size + 1, none, rfl, ?_, rfl, ?_⟩
  · go_simp
  · repeat (first | exact Below.refl _ _ | refine Below.alloc ?_ (by simp <;> omega) _)

theorem info5 : (Try.prog.info? 5).map (fun i => (i.zero, i.size, i.bytes)) = some (some (.int .u8 0), 1, 1) := by kernel_rfl

theorem noBufio (v : Value) (w : World) : (Instr.typeAssert (.iface 64 v) 44 37 true).run Try.prog w = .ok (.tuple #[.pointer none, .bool false]) w := by kernel_rfl

set_option maxRecDepth 100000 in
theorem newRead_c (s : ByteArray) (c : Bool) (w : World) : Calls Try.prog 7 #[.string s, .string { data := #[] }, .bool c] w (Made w false) := by
  have hmk : ∀ W : World, (Instr.makeSlice 59 (.int .i64 4096) (.int .i64 4096)).run Try.prog W = .ok (.slice (some ⟨W.heap.size, 0, none⟩) 4096 4096) (W.alloc (.cells (madeCells #[.int .u8 0] 4096) 5)) :=
    fun W => run_make_row' (P := Try.prog) 59 5 (.int .u8 0) 1 Try.underlying59 info5 rfl .i64 .i64 4096 (by decide) (by decide) W
  have has := noBufio
  generalize madeCells #[.int .u8 0] 4096 = C at hmk
  go_enter Try.func7, Try.ntmps7
  go_wp2_with (first | (go_at_call 11; go_in) | (go_at_call 10; go_in) | (go_at_call 12; go_in))
  go_end0
  go_wp2_with fail
  go_ret
  refine ⟨w.heap.size + 4, none, rfl, ?_, rfl, ?_⟩
  · go_simp
  · repeat (first | exact Below.refl _ _ | refine Below.alloc ?_ (by simp <;> omega) _ | refine Below.setCell ?_ (by simp <;> omega) _)
end Go.Proofs.Ytnijgncgholeoaa
