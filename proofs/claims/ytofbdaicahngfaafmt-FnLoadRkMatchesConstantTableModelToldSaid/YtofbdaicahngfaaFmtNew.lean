/-
  The walks through the makers of a function's context.
-/
import Derived.Test.YtofbdaicahngfaaFmtAbx
namespace Go.Proofs.YtofbdaicahngfaaFmt
open Go.RowKit
set_option linter.unusedVariables false

theorem zcell22 : (Tryf.prog.info? 9).map (fun i => (i.zero, i.size, i.bytes)) = some (some (.string ⟨#[]⟩), 1, 16) := by kernel_rfl
theorem newPool_c (w : World) : Calls Tryf.prog 21 #[.int .i64 0] w fun e w' => ∃ p, e = .returned (.pointer (some ⟨p, 0, none⟩)) ∧ Below w.heap.size w w' := by
  have hm : ∀ W : World, (Instr.makeSlice 22 (.int .i64 0) (.int .i64 16)).run Tryf.prog W = .ok (.slice (some ⟨W.heap.size, 0, none⟩) 0 16) (W.alloc (.cells (madeCells #[.string ⟨#[]⟩] 16) 9)) :=
    fun W => run_make_cap 22 9 (.string ⟨#[]⟩) 16 Tryf.underlying22 zcell22 rfl 16 (by decide) (by decide) W
  go_enter Tryf.func21, Tryf.ntmps21
  go_wp2
  go_ret
  refine ⟨w.heap.size + 1, rfl, ?_⟩
  repeat (first | exact Below.refl _ _ | refine Below.alloc ?_ (by simp <;> omega) _)
theorem newBlock_c (w : World) (p : Nat) : Calls Tryf.prog 22 #[.pointer (some ⟨p, 0, none⟩), .int .i64 0, .pointer none, .nilIface, .int .i64 0] w fun e w' => ∃ d, e = .returned (.pointer (some ⟨d, 0, none⟩)) ∧ Below w.heap.size w w' := by
  have hmm : ∀ W : World, (Instr.makeMap 87 none).run Tryf.prog W = .ok (.map (some W.heap.size)) (W.alloc (.map #[] 0)) := fun W => rfl
  go_enter Tryf.func22, Tryf.ntmps22
  go_wp2
  go_ret
  refine ⟨w.heap.size + 1, rfl, ?_⟩
  repeat (first | exact Below.refl _ _ | refine Below.drew ?_ | refine Below.alloc ?_ (by simp <;> omega) _)
end Go.Proofs.YtofbdaicahngfaaFmt
