/-
  The walks through the laws on the wide fields Bx and sBx of the instruction word: each returns true and writes nothing that was there.
-/
import Derived.Test.YtmcehpoembhnnaaW
import Derived.Deep.QuietTactic
import Derived.BigQuiet
import Derived.Deep.RegionWith
import Derived.Lib.Hide
namespace Go.Proofs.Ytmcehpoembhnnaa
open Go.RowKit
set_option linter.unusedVariables false

theorem law_joins (x : Int) (w : World) (hx : 0 ≤ x ∧ x ≤ 4294967295) : Calls Try.prog 3 #[.int .u32 x] w fun e w' => e = .returned (.bool true) ∧ Below w.heap.size w w' := by
  obtain ⟨h0, h1⟩ := hx
  have e : (x % 262144 == x / 512 % 512 * 512 + x % 512) = true := by simp; omega
  go_enter Try.func3, Try.ntmps3
  go_wp2_with (first | (go_at_call 13; refine (getBx x h0 h1 _).mono ?_; rintro e w' ⟨rfl, rfl⟩) | (go_at_call 14; refine (getC x h0 h1 _).mono ?_; rintro e w' ⟨rfl, rfl⟩) | (go_at_call 15; refine (getB x h0 h1 _).mono ?_; rintro e w' ⟨rfl, rfl⟩))
  go_ret
  exact ⟨rfl, Below.refl _ _⟩

theorem law_setBx (x v : Int) (w : World) (hx : 0 ≤ x ∧ x ≤ 4294967295) (hv : -9223372036854775808 ≤ v ∧ v ≤ 9223372036854775807) :
    Calls Try.prog 4 #[.int .u32 x, .int .i64 v] w fun e w' => e = .returned (.bool true) ∧ Below w.heap.size w w' := by
  obtain ⟨h0, h1⟩ := hx
  clear hv
  go_enter Try.func4, Try.ntmps4
  go_wp2_with (first | (go_at_call 16; refine (setBx _ _ x v h0 h1 _ (by simp) (by simp)).mono ?_; rintro e w' ⟨rfl, rfl⟩) | (go_at_call 17; refine (euclidMod_c v _).mono ?_; rintro e w' ⟨rfl, rfl⟩))
  go_ret
  exact ⟨rfl, (Below.refl _ _).alloc (Nat.le_refl _) _⟩

theorem law_getBx (x : Int) (w : World) (hx : 0 ≤ x ∧ x ≤ 4294967295) : Calls Try.prog 5 #[.int .u32 x] w fun e w' => e = .returned (.bool true) ∧ Below w.heap.size w w' := by
  obtain ⟨h0, h1⟩ := hx
  go_enter Try.func5, Try.ntmps5
  go_wp2_with (go_at_call 13; refine (getBx x h0 h1 _).mono ?_; rintro e w' ⟨rfl, rfl⟩)
  go_ret
  exact ⟨rfl, Below.refl _ _⟩

theorem law_getSbx (x : Int) (w : World) (hx : 0 ≤ x ∧ x ≤ 4294967295) : Calls Try.prog 6 #[.int .u32 x] w fun e w' => e = .returned (.bool true) ∧ Below w.heap.size w w' := by
  obtain ⟨h0, h1⟩ := hx
  go_enter Try.func6, Try.ntmps6
  go_wp2_with (go_at_call 18; refine (getSbx x h0 h1 _).mono ?_; rintro e w' ⟨rfl, rfl⟩)
  go_ret
  exact ⟨rfl, Below.refl _ _⟩

theorem law_setSbx (x v : Int) (w : World) (hx : 0 ≤ x ∧ x ≤ 4294967295) (hv : -9223372036854775808 ≤ v ∧ v ≤ 9223372036854775807) :
    Calls Try.prog 7 #[.int .u32 x, .int .i64 v] w fun e w' => e = .returned (.bool true) ∧ Below w.heap.size w w' := by
  obtain ⟨h0, h1⟩ := hx
  clear hv
  go_enter Try.func7, Try.ntmps7
  go_wp2_with (first | (go_at_call 19; refine (setSbx _ _ x v h0 h1 _ (by simp) (by simp)).mono ?_; rintro e w' ⟨rfl, rfl⟩) | (go_at_call 17; refine (euclidMod_c v _).mono ?_; rintro e w' ⟨rfl, rfl⟩))
  go_ret
  exact ⟨rfl, (Below.refl _ _).alloc (Nat.le_refl _) _⟩

theorem law_type (g : Bool) (w : World) : Calls Try.prog 8 #[.bool g] w fun e w' => e = .returned (.bool true) ∧ Below w.heap.size w w' := by
  go_enter Try.func8, Try.ntmps8
  go_wp2
  go_ret
  exact ⟨rfl, (Below.refl _ _).alloc (Nat.le_refl _) _⟩

theorem law_mono (x y : Int) (w : World) (hx : 0 ≤ x ∧ x ≤ 4294967295) (hy : 0 ≤ y ∧ y ≤ 4294967295) :
    Calls Try.prog 9 #[.int .u32 x, .int .u32 y] w fun e w' => e = .returned (.bool true) ∧ Below w.heap.size w w' := by
  obtain ⟨h0, h1⟩ := hx
  obtain ⟨k0, k1⟩ := hy
  by_cases h : x % 262144 < 262143
  all_goals
    go_enter Try.func9, Try.ntmps9
    go_wp2_with (go_at_call 18; refine (getSbx _ (by omega) (by omega) _).mono ?_; rintro e w' ⟨rfl, rfl⟩)
    go_ret
    exact ⟨rfl, Below.refl _ _⟩

theorem law_tags (n : Bool) (w : World) : Calls Try.prog 11 #[.bool n] w fun e w' => e = .returned (.bool true) ∧ Below w.heap.size w w' := by
  cases n
  all_goals
    go_enter Try.func11, Try.ntmps11
    go_wp2
    go_ret
    exact ⟨rfl, by repeat (first | exact Below.refl _ _ | refine Below.alloc ?_ (by simp <;> omega) _)⟩
theorem law_roundBx (x v u : Int) (w : World) (hx : 0 ≤ x ∧ x ≤ 4294967295) (hv : -9223372036854775808 ≤ v ∧ v ≤ 9223372036854775807) (hu : -9223372036854775808 ≤ u ∧ u ≤ 9223372036854775807) :
    Calls Try.prog 10 #[.int .u32 x, .int .i64 v, .int .i64 u] w fun e w' => e = .returned (.bool true) ∧ Below w.heap.size w w' := by
  obtain ⟨h0, h1⟩ := hx
  clear hv hu
  rcases (show v < 0 ∨ 262143 < v ∨ (0 ≤ v ∧ v ≤ 262143) by omega) with hn | hn | ⟨v0, v1⟩
  · go_enter Try.func10, Try.ntmps10
    go_wp2
    go_ret
    exact ⟨rfl, Below.refl _ _⟩
  · go_enter Try.func10, Try.ntmps10
    go_wp2
    go_ret
    exact ⟨rfl, Below.refl _ _⟩
  · have e1 : (x / 262144 * 262144 + u % 262144) / 262144 = x / 262144 := by omega
    go_enter Try.func10, Try.ntmps10
    go_wp2_with fail
    refine (setBx _ _ x v h0 h1 _ (by simp) (by simp)).mono ?_; rintro e w' ⟨rfl, rfl⟩
    go_wp2_with fail
    refine (getBx _ (by omega) (by omega) _).mono ?_; rintro e w' ⟨rfl, rfl⟩
    go_wp2_with fail
    refine (getBx _ (by omega) (by omega) _).mono ?_; rintro e w' ⟨rfl, rfl⟩
    go_wp2_with fail
    refine (setBx _ _ x _ h0 h1 _ ?_ ?_).mono ?_
    · go_simp
    · go_simp
    rintro e w' ⟨rfl, rfl⟩
    go_wp2_with fail
    refine (setBx _ _ x _ h0 h1 _ ?_ ?_).mono ?_
    · go_simp
    · go_simp
    rintro e w' ⟨rfl, rfl⟩
    go_wp2_with fail
    refine (setBx _ _ (x / 262144 * 262144 + u % 262144) v (by omega) (by omega) _ ?_ ?_).mono ?_
    · go_simp
    · go_simp
    rintro e w' ⟨rfl, rfl⟩
    go_wp2_with fail
    go_ret
    exact ⟨rfl, by repeat (first | exact Below.refl _ _ | refine Below.alloc ?_ (by simp <;> omega) _ | refine Below.setCell ?_ (by simp <;> omega) _)⟩

theorem law_roundSbx (x v u : Int) (w : World) (hx : 0 ≤ x ∧ x ≤ 4294967295) (hv : -9223372036854775808 ≤ v ∧ v ≤ 9223372036854775807) (hu : -9223372036854775808 ≤ u ∧ u ≤ 9223372036854775807) :
    Calls Try.prog 12 #[.int .u32 x, .int .i64 v, .int .i64 u] w fun e w' => e = .returned (.bool true) ∧ Below w.heap.size w w' := by
  obtain ⟨h0, h1⟩ := hx
  clear hv hu
  rcases (show v < -131071 ∨ 131072 < v ∨ (-131071 ≤ v ∧ v ≤ 131072) by omega) with hn | hn | ⟨v0, v1⟩
  · go_enter Try.func12, Try.ntmps12
    go_wp2
    go_ret
    exact ⟨rfl, Below.refl _ _⟩
  · go_enter Try.func12, Try.ntmps12
    go_wp2
    go_ret
    exact ⟨rfl, Below.refl _ _⟩
  · have e1 : (x / 262144 * 262144 + (u + 131071) % 262144) / 262144 = x / 262144 := by omega
    go_enter Try.func12, Try.ntmps12
    go_wp2_with fail
    refine (setSbx _ _ x v h0 h1 _ (by simp) (by simp)).mono ?_; rintro e w' ⟨rfl, rfl⟩
    go_wp2_with fail
    refine (getSbx _ (by omega) (by omega) _).mono ?_; rintro e w' ⟨rfl, rfl⟩
    go_wp2_with fail
    refine (getSbx _ (by omega) (by omega) _).mono ?_; rintro e w' ⟨rfl, rfl⟩
    go_wp2_with fail
    refine (setSbx _ _ x _ h0 h1 _ ?_ ?_).mono ?_
    · go_simp
    · go_simp
    rintro e w' ⟨rfl, rfl⟩
    go_wp2_with fail
    refine (setSbx _ _ x _ h0 h1 _ ?_ ?_).mono ?_
    · go_simp
    · go_simp
    rintro e w' ⟨rfl, rfl⟩
    go_wp2_with fail
    refine (setSbx _ _ (x / 262144 * 262144 + (u + 131071) % 262144) v (by omega) (by omega) _ ?_ ?_).mono ?_
    · go_simp
    · go_simp
    rintro e w' ⟨rfl, rfl⟩
    go_wp2_with fail
    go_ret
    exact ⟨rfl, by repeat (first | exact Below.refl _ _ | refine Below.alloc ?_ (by simp <;> omega) _ | refine Below.setCell ?_ (by simp <;> omega) _)⟩
end Go.Proofs.Ytmcehpoembhnnaa
