/-
  The walk through opCreateABx.
-/
import Derived.Test.YtofbdaicahngfaaFmtAdd
import Derived.Test.YtofbdaicahngfaaFmtBits
namespace Go.Proofs.YtofbdaicahngfaaFmt
open Go.RowKit
set_option linter.unusedVariables false

theorem and_c1 : bits .and .u32 0 67108863 = 0 := by decide
theorem or_c1 : bits .or .u32 0 134217728 = 134217728 := by decide
theorem and_c2 : bits .and .u32 134217728 4228120575 = 134217728 := by decide
theorem or_c2 (y : Int) (h0 : 0 ≤ y) (h1 : y < 256) : bits .or .u32 134217728 (y * 262144) = 134217728 + y * 262144 := by
  obtain ⟨n, rfl⟩ := Int.eq_ofNat_of_zero_le h0
  have : ∀ k : Fin 256, bits .or .u32 134217728 ((k.val : Int) * 262144) = 134217728 + (k.val : Int) * 262144 := by decide +kernel
  exact this ⟨n, by omega⟩
set_option maxRecDepth 100000 in
theorem setOp_c (g : Nat) (w : World) (hc : w.cell? ⟨g, 0, none⟩ = some (.int .u32 0)) (hf : w.frozen? ⟨g, 0, none⟩ = false) :
    Calls Tryf.prog 31 #[.pointer (some ⟨g, 0, none⟩), .int .i64 2] w fun e w' => e = .returned (.tuple #[]) ∧ w' = w.setCell ⟨g, 0, none⟩ (.int .u32 134217728) := by
  have e4 := and_c1
  have e5 := or_c1
  go_enter Tryf.func31, Tryf.ntmps31
  go_wp2
  go_end0
  exact ⟨rfl, rfl⟩
set_option maxRecDepth 100000 in
theorem setA_c (g : Nat) (a : Int) (w : World) (hc : w.cell? ⟨g, 0, none⟩ = some (.int .u32 134217728)) (hf : w.frozen? ⟨g, 0, none⟩ = false) :
    Calls Tryf.prog 32 #[.pointer (some ⟨g, 0, none⟩), .int .i64 a] w fun e w' => e = .returned (.tuple #[]) ∧ w' = w.setCell ⟨g, 0, none⟩ (.int .u32 (134217728 + a % 256 * 262144)) := by
  have e1 := i64_and_255 a
  have e6 := and_c2
  have e7 := or_c2 (a % 256) (by omega) (by omega)
  go_enter Tryf.func32, Tryf.ntmps32
  go_wp2
  go_end0
  exact ⟨rfl, rfl⟩
set_option maxRecDepth 100000 in
theorem setBx_c (g : Nat) (x v : Int) (h0 : 0 ≤ x) (h1 : x ≤ 4294967295) (w : World) (hc : w.cell? ⟨g, 0, none⟩ = some (.int .u32 x)) (hf : w.frozen? ⟨g, 0, none⟩ = false) :
    Calls Tryf.prog 33 #[.pointer (some ⟨g, 0, none⟩), .int .i64 v] w fun e w' => e = .returned (.tuple #[]) ∧ w' = w.setCell ⟨g, 0, none⟩ (.int .u32 (x / 262144 * 262144 + v % 262144)) := by
  have e1 := u32_and_high18 x h0 h1
  have e2 := i64_and_262143 v
  have e3 := u32_or_18 (x / 262144) (v % 262144) (by omega) (by omega) (by omega) (by omega)
  go_enter Tryf.func33, Tryf.ntmps33
  go_wp2
  go_end0
  exact ⟨rfl, rfl⟩
set_option maxRecDepth 100000 in
theorem opABx_c (a b : Int) (w : World) (h2 : 0 ≤ b) (h3 : b < 262144) :
    Calls Tryf.prog 29 #[.int .i64 2, .int .i64 a, .int .i64 b] w fun e w' => e = .returned (.int .u32 (134217728 + a % 256 * 262144 + b)) ∧ Below w.heap.size w w' := by
  have hv : (134217728 + a % 256 * 262144) / 262144 * 262144 + b % 262144 = 134217728 + a % 256 * 262144 + b := by omega
  have HV := Lib.hid hv
  have HP : Hid (0 ≤ 134217728 + a % 256 * 262144 ∧ 134217728 + a % 256 * 262144 ≤ 4294967295) := Lib.hid ⟨by omega, by omega⟩
  clear hv
  go_enter Tryf.func29, Tryf.ntmps29
  go_wp2_with fail
  refine (setOp_c w.heap.size _ (by go_simp) (by go_simp)).mono ?_; rintro e w' ⟨rfl, rfl⟩
  go_wp2_with fail
  refine (setA_c w.heap.size a _ (by go_simp) (by go_simp)).mono ?_; rintro e w' ⟨rfl, rfl⟩
  go_wp2_with fail
  refine (setBx_c w.heap.size _ b HP.out.1 HP.out.2 _ (by go_simp) (by go_simp)).mono ?_; rintro e w' ⟨rfl, rfl⟩
  rw [HV.out]
  go_wp2_with fail
  go_ret
  refine ⟨rfl, ?_⟩
  repeat (first | exact Below.refl _ _ | refine Below.setCell ?_ (by simp) _ | refine Below.alloc ?_ (by simp <;> omega) _)
end Go.Proofs.YtofbdaicahngfaaFmt
