/-
  The walk through the law on lFile.Type.
-/
import Derived.Test.YtnijgncgholeoaaW
namespace Go.Proofs.Ytnijgncgholeoaa
open Go.RowKit
set_option linter.unusedVariables false

theorem law_type (hasFp readable closed : Bool) (s : ByteArray) (w : World) (hs : s.size ≤ maxLen) :
    Calls Try.prog 3 #[.bool hasFp, .bool readable, .bool closed, .string s] w fun e w' => e = .returned (.bool true) ∧ Below w.heap.size w w' := by
  have hm : s.size ≤ 9223372036854775807 := by unfold maxLen at hs; omega
  by_cases hG : s.size ≤ 1048576
  · cases hasFp
    · cases readable
      · go_enter Try.func3, Try.ntmps3
        go_wp2_with (go_at_call 4; go_in)
        refine (newProc_c s closed w).mono ?_; rintro e w1 ⟨d, a, rfl, c1, ha, b1⟩
        go_wp2_with fail
        refine (type_c d a w1 c1).mono ?_; rintro e w' ⟨rfl, rfl⟩
        rw [ha]
        have hB := Lib.hid b1
        clear c1 b1 ha
        go_wp2_with fail
        go_ret
        exact ⟨rfl, hB.out⟩
      · go_enter Try.func3, Try.ntmps3
        go_wp2_with (go_at_call 4; go_in)
        refine (newRead_c s closed w).mono ?_; rintro e w1 ⟨d, a, rfl, c1, ha, b1⟩
        go_wp2_with fail
        refine (type_c d a w1 c1).mono ?_; rintro e w' ⟨rfl, rfl⟩
        rw [ha]
        have hB := Lib.hid b1
        clear c1 b1 ha
        go_wp2_with fail
        go_ret
        exact ⟨rfl, hB.out⟩
    · go_enter Try.func3, Try.ntmps3
      go_wp2_with (go_at_call 4; go_in)
      refine (newFile_c closed w).mono ?_; rintro e w1 ⟨d, a, rfl, c1, ha, b1⟩
      go_wp2_with fail
      refine (type_c d a w1 c1).mono ?_; rintro e w' ⟨rfl, rfl⟩
      rw [ha]
      have hB := Lib.hid b1
      clear c1 b1 ha
      go_wp2_with fail
      go_ret
      exact ⟨rfl, hB.out⟩
  · have hG' : 1048576 < s.size := by omega
    clear hG
    go_enter Try.func3, Try.ntmps3
    go_wp2_with (go_at_call 4; go_in)
    all_goals (go_ret; exact ⟨rfl, Below.refl _ _⟩)
end Go.Proofs.Ytnijgncgholeoaa
