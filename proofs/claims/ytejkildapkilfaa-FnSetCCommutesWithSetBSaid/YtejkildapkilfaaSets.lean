/-
  The walks through the setters of a code store (SetB, SetC, SetBx, SetSbx), At, and the laws' own helpers (modNonNeg, othersSame, sameU32, zzBytes).
-/
import Derived.Test.YtejkildapkilfaaClone
import Derived.Test.YtejkildapkilfaaBits
import Derived.Deep.QuietTactic
import Derived.BigQuiet
import Derived.Lib.Hide
namespace Go.Proofs.Ytejkildapkilfaa
open Go.RowKit
set_option linter.unusedVariables false

theorem setB_c (d g pc n c : Nat) (x v : Int) (h0 : 0 ≤ x) (h1 : x ≤ 4294967295) (w : World) (hd : w.cell? ⟨d, 0, none⟩ = some (.slice (some ⟨g, 0, none⟩) n c)) (hp : pc < n)
    (hc : w.cell? ⟨g, pc, none⟩ = some (.int .u32 x)) (hf : w.frozen? ⟨g, pc, none⟩ = false) :
    Calls Try.prog 18 #[.pointer (some ⟨d, 0, none⟩), .int .i64 pc, .int .i64 v] w fun e w' => e = .returned (.tuple #[]) ∧ w' = w.setCell ⟨g, pc, none⟩ (.int .u32 (x / 512 * 512 + v % 512)) := by
  have e1 := u32_and_high9 x h0 h1
  have e2 := i64_and_511 v
  have e3 := u32_or_9 (x / 512) (v % 512) (by omega) (by omega) (by omega) (by omega)
  go_enter Try.func18, Try.ntmps18
  go_wp2
  go_end0
  go_wp2
  go_end0
  exact ⟨rfl, rfl⟩

theorem setC_c (d g pc n c : Nat) (x v : Int) (h0 : 0 ≤ x) (h1 : x ≤ 4294967295) (w : World) (hd : w.cell? ⟨d, 0, none⟩ = some (.slice (some ⟨g, 0, none⟩) n c)) (hp : pc < n)
    (hc : w.cell? ⟨g, pc, none⟩ = some (.int .u32 x)) (hf : w.frozen? ⟨g, pc, none⟩ = false) :
    Calls Try.prog 19 #[.pointer (some ⟨d, 0, none⟩), .int .i64 pc, .int .i64 v] w fun e w' => e = .returned (.tuple #[]) ∧ w' = w.setCell ⟨g, pc, none⟩ (.int .u32 (x / 262144 * 262144 + v % 512 * 512 + x % 512)) := by
  have e1 := u32_and_c x h0 h1
  have e2 := i64_and_511 v
  have e3 := u32_or_c (x / 262144) (x % 512) (v % 512) (by omega) (by omega) (by omega) (by omega) (by omega) (by omega)
  go_enter Try.func19, Try.ntmps19
  go_wp2
  go_end0
  go_wp2
  go_end0
  exact ⟨rfl, rfl⟩

theorem opSetArgBx_c (b o : Nat) (x v : Int) (h0 : 0 ≤ x) (h1 : x ≤ 4294967295) (w : World) (hc : w.cell? ⟨b, o, none⟩ = some (.int .u32 x)) (hf : w.frozen? ⟨b, o, none⟩ = false) :
    Calls Try.prog 32 #[.pointer (some ⟨b, o, none⟩), .int .i64 v] w fun e w' => e = .returned (.tuple #[]) ∧ w' = w.setCell ⟨b, o, none⟩ (.int .u32 (x / 262144 * 262144 + v % 262144)) := by
  have e1 := u32_and_high18 x h0 h1
  have e2 := i64_and_262143 v
  have e3 := u32_or_18 (x / 262144) (v % 262144) (by omega) (by omega) (by omega) (by omega)
  go_enter Try.func32, Try.ntmps32
  go_wp2
  go_end0
  exact ⟨rfl, rfl⟩

theorem opSetArgSbx_c (b o : Nat) (x v : Int) (h0 : 0 ≤ x) (h1 : x ≤ 4294967295) (w : World) (hc : w.cell? ⟨b, o, none⟩ = some (.int .u32 x)) (hf : w.frozen? ⟨b, o, none⟩ = false) :
    Calls Try.prog 35 #[.pointer (some ⟨b, o, none⟩), .int .i64 v] w fun e w' => e = .returned (.tuple #[]) ∧ w' = w.setCell ⟨b, o, none⟩ (.int .u32 (x / 262144 * 262144 + (v + 131071) % 262144)) := by
  have e : wrap64 (v + 131071) % 262144 = (v + 131071) % 262144 := by unfold wrap64; omega
  go_enter Try.func35, Try.ntmps35
  go_wp2_with (go_at_call 32; refine (opSetArgBx_c b o x _ h0 h1 _ hc hf).mono ?_; rintro e w' ⟨rfl, rfl⟩)
  go_end0
  exact ⟨rfl, rfl⟩

theorem setBx_c (d g pc n c : Nat) (x v : Int) (h0 : 0 ≤ x) (h1 : x ≤ 4294967295) (w : World) (hd : w.cell? ⟨d, 0, none⟩ = some (.slice (some ⟨g, 0, none⟩) n c)) (hp : pc < n)
    (hc : w.cell? ⟨g, pc, none⟩ = some (.int .u32 x)) (hf : w.frozen? ⟨g, pc, none⟩ = false) :
    Calls Try.prog 17 #[.pointer (some ⟨d, 0, none⟩), .int .i64 pc, .int .i64 v] w fun e w' => e = .returned (.tuple #[]) ∧ w' = w.setCell ⟨g, pc, none⟩ (.int .u32 (x / 262144 * 262144 + v % 262144)) := by
  go_enter Try.func17, Try.ntmps17
  go_wp2_with (go_at_call 32; refine (opSetArgBx_c g pc x v h0 h1 _ hc hf).mono ?_; rintro e w' ⟨rfl, rfl⟩)
  go_end0
  exact ⟨rfl, rfl⟩

theorem setSbx_c (d g pc n c : Nat) (x v : Int) (h0 : 0 ≤ x) (h1 : x ≤ 4294967295) (w : World) (hd : w.cell? ⟨d, 0, none⟩ = some (.slice (some ⟨g, 0, none⟩) n c)) (hp : pc < n)
    (hc : w.cell? ⟨g, pc, none⟩ = some (.int .u32 x)) (hf : w.frozen? ⟨g, pc, none⟩ = false) :
    Calls Try.prog 29 #[.pointer (some ⟨d, 0, none⟩), .int .i64 pc, .int .i64 v] w fun e w' => e = .returned (.tuple #[]) ∧ w' = w.setCell ⟨g, pc, none⟩ (.int .u32 (x / 262144 * 262144 + (v + 131071) % 262144)) := by
  go_enter Try.func29, Try.ntmps29
  go_wp2_with (go_at_call 35; refine (opSetArgSbx_c g pc x v h0 h1 _ hc hf).mono ?_; rintro e w' ⟨rfl, rfl⟩)
  go_end0
  exact ⟨rfl, rfl⟩

theorem at_c (d g pc n c : Nat) (x : Int) (w : World) (hd : w.cell? ⟨d, 0, none⟩ = some (.slice (some ⟨g, 0, none⟩) n c)) (hp : pc < n) (hc : w.cell? ⟨g, pc, none⟩ = some (.int .u32 x)) :
    Calls Try.prog 23 #[.pointer (some ⟨d, 0, none⟩), .int .i64 pc] w fun e w' => e = .returned (.int .u32 x) ∧ w = w' := by
  go_enter Try.func23, Try.ntmps23
  go_wp2
  go_ret
  exact ⟨rfl, rfl⟩

theorem othersSame_c (g1 g2 n : Nat) (pc : Int) (X Y : Nat → Int) (w : World) (hm : n ≤ 65536) (h1 : ∀ i, i < n → w.cell? ⟨g1, i, none⟩ = some (.int .u32 (X i))) (h2 : ∀ i, i < n → w.cell? ⟨g2, i, none⟩ = some (.int .u32 (Y i)))
    (hxy : ∀ i : Nat, i < n → (i : Int) ≠ pc → X i = Y i) :
    Calls Try.prog 24 #[.slice (some ⟨g1, 0, none⟩) n n, .slice (some ⟨g2, 0, none⟩) n n, .int .i64 pc] w fun e w' => e = .returned (.bool true) ∧ ∃ q, w' = w.drewN q := by
  have H1 := Lib.hid h1
  have H2 := Lib.hid h2
  have H3 := Lib.hid hxy
  clear h1 h2 hxy
  go_enter Try.func24, Try.ntmps24
  go_wp2
  go_loopw [7] (fun i wr => ∃ k q : Nat, k ≤ n ∧ i = .int .i64 k ∧ wr = w.drewN q) (fun i _ => n - (intOf i).toNat)
  case atStart => exact ⟨0, 0, Nat.zero_le _, rfl, rfl⟩
  case round =>
    obtain ⟨k, q, hk, rfl, rfl⟩ := hrel
    by_cases hlt : k < n
    · have c1 := H1.out k hlt
      have c2 := H2.out k hlt
      have i0 : (0 : Int) ≤ (k : Int) := by omega
      have i1 : (k : Int) < (n : Int) := by omega
      by_cases hp : (k : Int) = pc
      · have b0 : ((k : Int) != pc) = false := by simp [hp]
        clear hp
        go_wp2
        go_quiet (fail)
        go_wp2
        go_roundw
        case rel => exact ⟨k + 1, _, by omega, by go_num, rfl⟩
        case measure => simp [intOf]; omega
      · have b0 : ((k : Int) != pc) = true := by simp [hp]
        rw [← H3.out k hlt hp] at c2
        clear hp
        go_wp2
        go_quiet (fail)
        go_wp2
        go_roundw
        case rel => exact ⟨k + 1, _, by omega, by go_num, rfl⟩
        case measure => simp [intOf]; omega
    · obtain rfl : k = n := by omega
      go_wp2
      go_ret
      exact ⟨rfl, _, rfl⟩

theorem sameU32_c (g1 g2 n : Nat) (X : Nat → Int) (w : World) (hm : n ≤ 65536) (h1 : ∀ i, i < n → w.cell? ⟨g1, i, none⟩ = some (.int .u32 (X i))) (h2 : ∀ i, i < n → w.cell? ⟨g2, i, none⟩ = some (.int .u32 (X i))) :
    Calls Try.prog 20 #[.slice (some ⟨g1, 0, none⟩) n n, .slice (some ⟨g2, 0, none⟩) n n] w fun e w' => e = .returned (.bool true) ∧ ∃ q, w' = w.drewN q := by
  have H1 := Lib.hid h1
  have H2 := Lib.hid h2
  clear h1 h2
  go_enter Try.func20, Try.ntmps20
  go_wp2
  go_loopw [5] (fun i wr => ∃ k q : Nat, k ≤ n ∧ i = .int .i64 k ∧ wr = w.drewN q) (fun i _ => n - (intOf i).toNat)
  case atStart => exact ⟨0, 0, Nat.zero_le _, rfl, rfl⟩
  case round =>
    obtain ⟨k, q, hk, rfl, rfl⟩ := hrel
    by_cases hlt : k < n
    · have c1 := H1.out k hlt
      have c2 := H2.out k hlt
      have i0 : (0 : Int) ≤ (k : Int) := by omega
      have i1 : (k : Int) < (n : Int) := by omega
      go_wp2
      go_quiet (fail)
      go_wp2
      go_roundw
      case rel => exact ⟨k + 1, _, by omega, by go_num, rfl⟩
      case measure => simp [intOf]; omega
    · obtain rfl : k = n := by omega
      go_wp2
      go_ret
      exact ⟨rfl, _, rfl⟩

theorem modNonNeg_512 (v : Int) (w : World) : Calls Try.prog 22 #[.int .i64 v, .int .i64 512] w fun e w' => e = .returned (.int .i64 (v % 512)) ∧ w = w' := by
  have h := Int.tmod_eq_emod (a := v) (b := 512)
  by_cases hm : v.tmod 512 < 0
  · have T : Hid (v.tmod 512 + 512 = v % 512) := by split at h <;> (show _ = _; omega)
    have b0 : -512 < v.tmod 512 := by split at h <;> omega
    clear h
    go_enter Try.func22, Try.ntmps22
    go_wp2
    go_ret
    exact ⟨ret_int T.out, rfl⟩
  · have T : Hid (v.tmod 512 = v % 512) := by split at h <;> (show _ = _; omega)
    clear h
    go_enter Try.func22, Try.ntmps22
    go_wp2
    go_ret
    exact ⟨ret_int T.out, rfl⟩

theorem modNonNeg_262144 (v : Int) (w : World) : Calls Try.prog 22 #[.int .i64 v, .int .i64 262144] w fun e w' => e = .returned (.int .i64 (v % 262144)) ∧ w = w' := by
  have h := Int.tmod_eq_emod (a := v) (b := 262144)
  by_cases hm : v.tmod 262144 < 0
  · have T : Hid (v.tmod 262144 + 262144 = v % 262144) := by split at h <;> (show _ = _; omega)
    have b0 : -262144 < v.tmod 262144 := by split at h <;> omega
    clear h
    go_enter Try.func22, Try.ntmps22
    go_wp2
    go_ret
    exact ⟨ret_int T.out, rfl⟩
  · have T : Hid (v.tmod 262144 = v % 262144) := by split at h <;> (show _ = _; omega)
    clear h
    go_enter Try.func22, Try.ntmps22
    go_wp2
    go_ret
    exact ⟨ret_int T.out, rfl⟩
end Go.Proofs.Ytejkildapkilfaa
