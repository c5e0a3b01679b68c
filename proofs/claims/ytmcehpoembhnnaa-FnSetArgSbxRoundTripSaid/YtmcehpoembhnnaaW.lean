/-
  The walks through the accessors of the instruction word (opGetArgBx, opSetArgBx, opGetArgSbx, opSetArgSbx, opGetArgB, opGetArgC) and through their exports.
-/
import Derived.Test.YtmcehpoembhnnaaRows
import Derived.Test.YtmcehpoembhnnaaBits
import Derived.WalkKit
import Derived.Outline
import Derived.Deep.DeepMust
namespace Go.Proofs.Ytmcehpoembhnnaa
open Go.RowKit

theorem opGetArgBx_c (x : Int) (h0 : 0 ≤ x) (h1 : x ≤ 4294967295) (w : World) : Calls Try.prog 23 #[.int .u32 x] w fun e w' => e = .returned (.int .i64 (x % 262144)) ∧ w = w' := by
  have e1 := u32_and_262143 x h0 h1
  go_enter Try.func23, Try.ntmps23
  go_wp2
  go_ret
  exact ⟨rfl, rfl⟩

theorem getBx (x : Int) (h0 : 0 ≤ x) (h1 : x ≤ 4294967295) (w : World) : Calls Try.prog 13 #[.int .u32 x] w fun e w' => e = .returned (.int .i64 (x % 262144)) ∧ w = w' := by
  go_enter Try.func13, Try.ntmps13
  go_wp2_with (go_at_call 23; refine (opGetArgBx_c x h0 h1 _).mono ?_; rintro e w' ⟨rfl, rfl⟩)
  go_ret
  exact ⟨rfl, rfl⟩

theorem getC (x : Int) (h0 : 0 ≤ x) (h1 : x ≤ 4294967295) (w : World) : Calls Try.prog 14 #[.int .u32 x] w fun e w' => e = .returned (.int .i64 (x / 512 % 512)) ∧ w = w' := by
  have e1 := i64_and_511 (x / 512)
  go_enter Try.func14, Try.ntmps14
  go_wp2
  go_ret
  exact ⟨rfl, rfl⟩

theorem getB (x : Int) (h0 : 0 ≤ x) (h1 : x ≤ 4294967295) (w : World) : Calls Try.prog 15 #[.int .u32 x] w fun e w' => e = .returned (.int .i64 (x % 512)) ∧ w = w' := by
  have e1 := u32_and_511 x h0 h1
  go_enter Try.func15, Try.ntmps15
  go_wp2
  go_ret
  exact ⟨rfl, rfl⟩

theorem opSetArgBx_c (b o : Nat) (x v : Int) (h0 : 0 ≤ x) (h1 : x ≤ 4294967295) (w : World) (hc : w.cell? ⟨b, o, none⟩ = some (.int .u32 x)) (hf : w.frozen? ⟨b, o, none⟩ = false) :
    Calls Try.prog 26 #[.pointer (some ⟨b, o, none⟩), .int .i64 v] w fun e w' => e = .returned (.tuple #[]) ∧ w' = w.setCell ⟨b, o, none⟩ (.int .u32 (x / 262144 * 262144 + v % 262144)) := by
  have e1 := u32_and_high18 x h0 h1
  have e2 := i64_and_262143 v
  have e3 := u32_or_18 (x / 262144) (v % 262144) (by omega) (by omega) (by omega) (by omega)
  go_enter Try.func26, Try.ntmps26
  go_wp2
  go_end0
  exact ⟨rfl, rfl⟩

theorem setBx (b o : Nat) (x v : Int) (h0 : 0 ≤ x) (h1 : x ≤ 4294967295) (w : World) (hc : w.cell? ⟨b, o, none⟩ = some (.int .u32 x)) (hf : w.frozen? ⟨b, o, none⟩ = false) :
    Calls Try.prog 16 #[.pointer (some ⟨b, o, none⟩), .int .i64 v] w fun e w' => e = .returned (.tuple #[]) ∧ w' = w.setCell ⟨b, o, none⟩ (.int .u32 (x / 262144 * 262144 + v % 262144)) := by
  go_enter Try.func16, Try.ntmps16
  go_wp2_with (go_at_call 26; refine (opSetArgBx_c b o x v h0 h1 _ hc hf).mono ?_; rintro e w' ⟨rfl, rfl⟩)
  go_end0
  exact ⟨rfl, rfl⟩

theorem opSetArgSbx_c (b o : Nat) (x v : Int) (h0 : 0 ≤ x) (h1 : x ≤ 4294967295) (w : World) (hc : w.cell? ⟨b, o, none⟩ = some (.int .u32 x)) (hf : w.frozen? ⟨b, o, none⟩ = false) :
    Calls Try.prog 28 #[.pointer (some ⟨b, o, none⟩), .int .i64 v] w fun e w' => e = .returned (.tuple #[]) ∧ w' = w.setCell ⟨b, o, none⟩ (.int .u32 (x / 262144 * 262144 + (v + 131071) % 262144)) := by
  have e : wrap64 (v + 131071) % 262144 = (v + 131071) % 262144 := by unfold wrap64; omega
  go_enter Try.func28, Try.ntmps28
  go_wp2_with (go_at_call 26; refine (opSetArgBx_c b o x _ h0 h1 _ hc hf).mono ?_; rintro e w' ⟨rfl, rfl⟩)
  go_end0
  exact ⟨rfl, rfl⟩

theorem setSbx (b o : Nat) (x v : Int) (h0 : 0 ≤ x) (h1 : x ≤ 4294967295) (w : World) (hc : w.cell? ⟨b, o, none⟩ = some (.int .u32 x)) (hf : w.frozen? ⟨b, o, none⟩ = false) :
    Calls Try.prog 19 #[.pointer (some ⟨b, o, none⟩), .int .i64 v] w fun e w' => e = .returned (.tuple #[]) ∧ w' = w.setCell ⟨b, o, none⟩ (.int .u32 (x / 262144 * 262144 + (v + 131071) % 262144)) := by
  go_enter Try.func19, Try.ntmps19
  go_wp2_with (go_at_call 28; refine (opSetArgSbx_c b o x v h0 h1 _ hc hf).mono ?_; rintro e w' ⟨rfl, rfl⟩)
  go_end0
  exact ⟨rfl, rfl⟩

theorem getSbx (x : Int) (h0 : 0 ≤ x) (h1 : x ≤ 4294967295) (w : World) : Calls Try.prog 18 #[.int .u32 x] w fun e w' => e = .returned (.int .i64 (x % 262144 - 131071)) ∧ w = w' := by
  go_enter Try.func18, Try.ntmps18
  go_wp2_with (first | (go_at_call 23; refine (opGetArgBx_c x h0 h1 _).mono ?_; rintro e w' ⟨rfl, rfl⟩) | go_in)
  go_ret
  exact ⟨rfl, rfl⟩

theorem ret_int {k : IntKind} {a b : Int} (h : a = b) : Ending.returned (.int k a) = .returned (.int k b) := by rw [h]
theorem tmod_facts (v : Int) : (v.tmod 262144 < 0 → v.tmod 262144 + 262144 = v % 262144) ∧ (0 ≤ v.tmod 262144 → v.tmod 262144 = v % 262144) ∧ -262144 < v.tmod 262144 ∧ v.tmod 262144 < 262144 := by
  have h := Int.tmod_eq_emod (a := v) (b := 262144)
  split at h <;> omega

theorem euclidMod_c (v : Int) (w : World) : Calls Try.prog 17 #[.int .i64 v] w fun e w' => e = .returned (.int .i64 (v % 262144)) ∧ w = w' := by
  obtain ⟨t1, t2, t3, t4⟩ := tmod_facts v
  by_cases hm : v.tmod 262144 < 0
  · have T1 : Hid (v.tmod 262144 + 262144 = v % 262144) := t1 hm
    clear t1 t2
    go_enter Try.func17, Try.ntmps17
    go_wp2
    go_ret
    exact ⟨ret_int T1.out, rfl⟩
  · have hm' : 0 ≤ v.tmod 262144 := by omega
    have T2 : Hid (v.tmod 262144 = v % 262144) := t2 hm'
    clear t1 t2
    go_enter Try.func17, Try.ntmps17
    go_wp2
    go_ret
    exact ⟨ret_int T2.out, rfl⟩
end Go.Proofs.Ytmcehpoembhnnaa
