/-
  The law on Insert, for every input.
-/
import Derived.Test.YtddmpdiidnamkaaLaw8
namespace Go.Proofs.Ytddmpdiidnamkaa
open Go.RowKit
set_option linter.unusedVariables false

set_option maxHeartbeats 1000000 in
set_option maxRecDepth 100000 in
theorem law_ins (A : Option Addr) (n c : Nat) (zs : List Int) (cp0 x a0 : Int) (w : World) (h : Arg w A n c (zs.map (Value.int .i32))) (q : ∀ z ∈ zs, -2147483648 ≤ z ∧ z ≤ 2147483647) (r1 : -9223372036854775808 ≤ cp0 ∧ cp0 ≤ 9223372036854775807) (r2 : -2147483648 ≤ x ∧ x ≤ 2147483647) (r3 : -9223372036854775808 ≤ a0 ∧ a0 ≤ 9223372036854775807) :
    Calls Try.prog 8 #[.slice A n c, .int .i64 cp0, .int .i32 x, .int .i64 a0] w fun e w' => e = .returned (.bool true) ∧ Below w.heap.size w w' := by
  have m : n ≤ 9223372036854775807 := by have h1 := h.2.1; have h2 := h.2.2.1; unfold maxLen at h2; omega
  have H := Lib.hid h
  clear h q r1 r2 r3
  by_cases k1 : n ≤ 65536
  · by_cases k2 : (n : Int) ≤ cp0
    · by_cases k3 : cp0 ≤ 65536
      · by_cases k4 : 0 ≤ a0
        · by_cases k5 : a0 ≤ 65536
          · by_cases k6 : a0 < (n : Int)
            · by_cases k7 : (n : Int) + 1 ≤ cp0
              · obtain ⟨cp, rfl⟩ := Int.eq_ofNat_of_zero_le (show 0 ≤ cp0 by omega)
                obtain ⟨a, rfl⟩ := Int.eq_ofNat_of_zero_le k4
                exact ins_core A n c cp a x zs w H.out (by omega) (by omega) (by omega) (by omega) m
              · have k7' : cp0 < (n : Int) + 1 := by omega
                clear k7
                go_enter Try.func8, Try.ntmps8
                go_wp2_with fail
                refine (bytes35_c A n c _ _ _ w m).mono ?_; rintro e w' ⟨b, rfl, rfl⟩
                cases b
                all_goals
                  go_wp2_with fail
                  go_ret
                  exact ⟨rfl, Below.refl _ _⟩
            · by_cases k7 : a0 + 1 ≤ cp0
              · obtain ⟨cp, rfl⟩ := Int.eq_ofNat_of_zero_le (show 0 ≤ cp0 by omega)
                obtain ⟨a, rfl⟩ := Int.eq_ofNat_of_zero_le k4
                exact ins_core A n c cp a x zs w H.out (by omega) (by omega) (by omega) (by omega) m
              · have k7' : cp0 < a0 + 1 := by omega
                clear k7
                go_enter Try.func8, Try.ntmps8
                go_wp2_with fail
                refine (bytes35_c A n c _ _ _ w m).mono ?_; rintro e w' ⟨b, rfl, rfl⟩
                cases b
                all_goals
                  go_wp2_with fail
                  go_ret
                  exact ⟨rfl, Below.refl _ _⟩
          · have k5' : 65536 < a0 := by omega
            clear k5
            go_enter Try.func8, Try.ntmps8
            go_wp2_with fail
            refine (bytes35_c A n c _ _ _ w m).mono ?_; rintro e w' ⟨b, rfl, rfl⟩
            cases b
            all_goals
              go_wp2_with fail
              go_ret
              exact ⟨rfl, Below.refl _ _⟩
        · have k4' : a0 < 0 := by omega
          clear k4
          go_enter Try.func8, Try.ntmps8
          go_wp2_with fail
          refine (bytes35_c A n c _ _ _ w m).mono ?_; rintro e w' ⟨b, rfl, rfl⟩
          cases b
          all_goals
            go_wp2_with fail
            go_ret
            exact ⟨rfl, Below.refl _ _⟩
      · have k3' : 65536 < cp0 := by omega
        clear k3
        go_enter Try.func8, Try.ntmps8
        go_wp2_with fail
        refine (bytes35_c A n c _ _ _ w m).mono ?_; rintro e w' ⟨b, rfl, rfl⟩
        cases b
        all_goals
          go_wp2_with fail
          go_ret
          exact ⟨rfl, Below.refl _ _⟩
    · have k2' : cp0 < (n : Int) := by omega
      clear k2
      go_enter Try.func8, Try.ntmps8
      go_wp2_with fail
      refine (bytes35_c A n c _ _ _ w m).mono ?_; rintro e w' ⟨b, rfl, rfl⟩
      cases b
      all_goals
        go_wp2_with fail
        go_ret
        exact ⟨rfl, Below.refl _ _⟩
  · have k1' : 65536 < n := by omega
    clear k1
    go_enter Try.func8, Try.ntmps8
    go_wp2_with fail
    refine (bytes35_c A n c _ _ _ w m).mono ?_; rintro e w' ⟨b, rfl, rfl⟩
    cases b
    all_goals
      go_wp2_with fail
      go_ret
      exact ⟨rfl, Below.refl _ _⟩
end Go.Proofs.Ytddmpdiidnamkaa
