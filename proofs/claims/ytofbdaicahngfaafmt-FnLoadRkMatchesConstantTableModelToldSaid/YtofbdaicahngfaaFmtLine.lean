/-
  The walk through sline over a string expression: the line of its node.
-/
import Derived.Test.YtofbdaicahngfaaFmtIdx
namespace Go.Proofs.YtofbdaicahngfaaFmt
open Go.RowKit
set_option linter.unusedVariables false

theorem method_line (d : Nat) (w : World) : (method 265 52 (.pointer (some ⟨d, 0, none⟩)) "Line").run Tryf.prog w = .ok (78, .pointer (some ⟨d, 0, none⟩)) w := by kernel_rfl
theorem node_line_c (d : Nat) (w : World) (h : w.cell? ⟨d, 0, none⟩ = some (.int .i64 0)) : Calls Tryf.prog 78 #[.pointer (some ⟨d, 0, none⟩)] w fun e w' => e = .returned (.int .i64 0) ∧ w = w' := by
  go_enter Tryf.func78, Tryf.ntmps78
  go_wp2
  go_ret
  exact ⟨rfl, rfl⟩
theorem sline_c (d : Nat) (w : World) (h : w.cell? ⟨d, 0, none⟩ = some (.int .i64 0)) : Calls Tryf.prog 26 #[.iface 52 (.pointer (some ⟨d, 0, none⟩))] w fun e w' => e = .returned (.int .i64 0) ∧ w = w' := by
  have e1 := method_line d
  go_enter Tryf.func26, Tryf.ntmps26
  go_wp2_with (go_at_call 78; refine (node_line_c d _ h).mono ?_; rintro e w' ⟨rfl, rfl⟩)
  go_ret
  exact ⟨rfl, rfl⟩
end Go.Proofs.YtofbdaicahngfaaFmt
