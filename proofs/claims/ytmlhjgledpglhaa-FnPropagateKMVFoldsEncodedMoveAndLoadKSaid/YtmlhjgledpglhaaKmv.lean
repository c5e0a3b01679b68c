/-
  The walks through the fields of an instruction word and through codeStore.PropagateKMV: it folds a LOADK or a MOVE, or hands out the register.
-/
import Derived.Test.YtmlhjgledpglhaaRows
import Derived.Test.YtmlhjgledpglhaaBase
import Derived.Test.YtmlhjgledpglhaaBits
import Derived.WalkSpells
import Derived.Outline
namespace Go.Proofs.Ytmlhjgledpglhaa
open Go.RowKit
set_option linter.unusedVariables false

theorem getA_c (x : Int) (h0 : 0 ≤ x) (h1 : x ≤ 4294967295) (w : World) : Calls Try.prog 42 #[.int .u32 x] w fun e w' => e = .returned (.int .i64 (x / 262144 % 256)) ∧ w = w' := by
  have e1 := i64_and_255 (x / 262144)
  go_enter Try.func42, Try.ntmps42
  go_wp2
  go_ret
  exact ⟨rfl, rfl⟩
theorem getOp_c (x : Int) (h0 : 0 ≤ x) (h1 : x ≤ 4294967295) (w : World) : Calls Try.prog 43 #[.int .u32 x] w fun e w' => e = .returned (.int .i64 (x / 67108864)) ∧ w = w' := by
  go_enter Try.func43, Try.ntmps43
  go_wp2
  go_ret
  exact ⟨rfl, rfl⟩
theorem getBx_c (x : Int) (h0 : 0 ≤ x) (h1 : x ≤ 4294967295) (w : World) : Calls Try.prog 44 #[.int .u32 x] w fun e w' => e = .returned (.int .i64 (x % 262144)) ∧ w = w' := by
  have e1 := u32_and_262143 x h0 h1
  go_enter Try.func44, Try.ntmps44
  go_wp2
  go_ret
  exact ⟨rfl, rfl⟩
theorem getB_c (x : Int) (h0 : 0 ≤ x) (h1 : x ≤ 4294967295) (w : World) : Calls Try.prog 47 #[.int .u32 x] w fun e w' => e = .returned (.int .i64 (x % 512)) ∧ w = w' := by
  have e1 := u32_and_511 x h0 h1
  go_enter Try.func47, Try.ntmps47
  go_wp2
  go_ret
  exact ⟨rfl, rfl⟩
theorem i64_or_256 (x : Int) (h0 : 0 ≤ x) (h1 : x ≤ 255) : bits .or .i64 x 256 = x + 256 := by
  obtain ⟨a, rfl⟩ := Int.eq_ofNat_of_zero_le h0
  have h := i64_or_nat a 256 (by omega) (by decide)
  have h2 := nat_or_add 1 a 8 (by omega)
  rw [Nat.or_comm] at h2
  rw [show (256 : Int) = ((256 : Nat) : Int) by rfl, h, show (256 : Nat) = 1 * 2 ^ 8 by rfl, h2]
  omega
theorem rkAsk_c (x : Int) (h0 : 0 ≤ x) (h1 : x ≤ 255) (w : World) : Calls Try.prog 46 #[.int .i64 x] w fun e w' => e = .returned (.int .i64 (x + 256)) ∧ w = w' := by
  have e1 := i64_or_256 x h0 h1
  go_enter Try.func46, Try.ntmps46
  go_wp2
  go_ret
  exact ⟨rfl, rfl⟩
theorem pop_c (d p : Nat) (w : World) (hp : w.cell? ⟨d, 2, none⟩ = some (.int .i64 ((p : Int) + 1))) (hf : w.frozen? ⟨d, 2, none⟩ = false) (hm : p < 1048576) :
    Calls Try.prog 45 #[.pointer (some ⟨d, 0, none⟩)] w fun e w' => e = .returned (.tuple #[]) ∧ w' = w.setCell ⟨d, 2, none⟩ (.int .i64 p) := by
  go_enter Try.func45, Try.ntmps45
  go_wp2
  go_end0
  exact ⟨rfl, rfl⟩
/-- What Last hands back, as the walks of its callers take it. -/
def Last (d : Nat) (I : Int) (w : World) : Prop := Calls Try.prog 41 #[.pointer (some ⟨d, 0, none⟩)] w fun e w' => e = .returned (.int .u32 I) ∧ ∃ q, w' = w.drewN q
theorem last_zero (d : Nat) (w : World) (hp : w.cell? ⟨d, 2, none⟩ = some (.int .i64 0)) : Last d 4294967295 w := by
  unfold Last
  go_enter Try.func41, Try.ntmps41
  go_wp2
  go_ret
  exact ⟨rfl, 0, rfl⟩
theorem last_succ (d g n p : Nat) (I : Int) (w : World) (hc : w.cell? ⟨d, 0, none⟩ = some (.slice (some ⟨g, 0, none⟩) n n)) (hp : w.cell? ⟨d, 2, none⟩ = some (.int .i64 ((p : Int) + 1))) (hlt : p < n) (hn : n ≤ 65536)
    (hx : w.cell? ⟨g, p, none⟩ = some (.int .u32 I)) : Last d I w := by
  unfold Last
  have t0 : (0 : Int) ≤ (p : Int) := by omega
  have t1 : (p : Int) < (n : Int) := by omega
  have t2 : ((p : Int) + 1 == 0) = false := by simp <;> omega
  have t3 : IntKind.i64.wrap ((p : Int) + 1 - 1) = (p : Int) := by rw [Int.add_sub_cancel]; exact IntWalk.i64_in _ (by omega)
  go_enter Try.func41, Try.ntmps41
  go_wp2
  go_quiet (fail)
  go_wp2
  go_ret
  exact ⟨rfl, _, rfl⟩

theorem prop_k (d s r p : Nat) (I top sv inc : Int) (w : World) (h0 : 0 ≤ I) (h1 : I ≤ 4294967295) (hl : Last d I w) (hp : w.cell? ⟨d, 2, none⟩ = some (.int .i64 ((p : Int) + 1))) (hpf : w.frozen? ⟨d, 2, none⟩ = false) (hm : p < 1048576)
    (hs : w.cell? ⟨s, 0, none⟩ = some (.int .i64 sv)) (hsf : w.frozen? ⟨s, 0, none⟩ = false) (hds : d ≠ s) (hA : top ≤ I / 262144 % 256) (hop : I / 67108864 = 2) (hbx : I % 262144 ≤ 255) :
    Calls Try.prog 22 #[.pointer (some ⟨d, 0, none⟩), .int .i64 top, .pointer (some ⟨s, 0, none⟩), .pointer (some ⟨r, 0, none⟩), .int .i64 inc] w fun e w' => e = .returned (.tuple #[]) ∧
      ∃ q, w' = ((w.drewN q).setCell ⟨d, 2, none⟩ (.int .i64 p)).setCell ⟨s, 0, none⟩ (.int .i64 (I % 262144 + 256)) := by
  have HOP := Lib.hid hop
  have HL := Lib.hid hl
  clear hop hl
  go_enter Try.func22, Try.ntmps22
  go_wp2_with fail
  refine Calls.mono HL.out ?_; rintro e w' ⟨rfl, q, rfl⟩
  go_wp2_with fail
  refine (getA_c I h0 h1 _).mono ?_; rintro e w' ⟨rfl, rfl⟩
  go_wp2_with fail
  refine (getOp_c I h0 h1 _).mono ?_; rintro e w' ⟨rfl, rfl⟩
  rw [HOP.out]
  go_wp2_with fail
  refine (getBx_c I h0 h1 _).mono ?_; rintro e w' ⟨rfl, rfl⟩
  go_wp2_with fail
  refine (pop_c d p (w.drewN q) hp hpf hm).mono ?_; rintro e w' ⟨rfl, rfl⟩
  go_wp2_with fail
  refine (rkAsk_c (I % 262144) (by omega) hbx _).mono ?_; rintro e w' ⟨rfl, rfl⟩
  go_wp2_with fail
  refine bodyPost_ret (results_none rfl _ _ _) rfl ?_
  exact ⟨rfl, q, rfl⟩

theorem prop_m (d s r p : Nat) (I top sv inc : Int) (w : World) (h0 : 0 ≤ I) (h1 : I ≤ 4294967295) (hl : Last d I w) (hp : w.cell? ⟨d, 2, none⟩ = some (.int .i64 ((p : Int) + 1))) (hpf : w.frozen? ⟨d, 2, none⟩ = false) (hm : p < 1048576)
    (hs : w.cell? ⟨s, 0, none⟩ = some (.int .i64 sv)) (hsf : w.frozen? ⟨s, 0, none⟩ = false) (hds : d ≠ s) (hA : top ≤ I / 262144 % 256) (hop : I / 67108864 = 0) :
    Calls Try.prog 22 #[.pointer (some ⟨d, 0, none⟩), .int .i64 top, .pointer (some ⟨s, 0, none⟩), .pointer (some ⟨r, 0, none⟩), .int .i64 inc] w fun e w' => e = .returned (.tuple #[]) ∧
      ∃ q, w' = ((w.drewN q).setCell ⟨d, 2, none⟩ (.int .i64 p)).setCell ⟨s, 0, none⟩ (.int .i64 (I % 512)) := by
  have HOP := Lib.hid hop
  have HL := Lib.hid hl
  clear hop hl
  go_enter Try.func22, Try.ntmps22
  go_wp2_with fail
  refine Calls.mono HL.out ?_; rintro e w' ⟨rfl, q, rfl⟩
  go_wp2_with fail
  refine (getA_c I h0 h1 _).mono ?_; rintro e w' ⟨rfl, rfl⟩
  go_wp2_with fail
  refine (getOp_c I h0 h1 _).mono ?_; rintro e w' ⟨rfl, rfl⟩
  rw [HOP.out]
  go_wp2_with fail
  refine (pop_c d p (w.drewN q) hp hpf hm).mono ?_; rintro e w' ⟨rfl, rfl⟩
  go_wp2_with fail
  refine (getB_c I h0 h1 _).mono ?_; rintro e w' ⟨rfl, rfl⟩
  go_wp2_with fail
  refine bodyPost_ret (results_none rfl _ _ _) rfl ?_
  exact ⟨rfl, q, rfl⟩

theorem prop_n (d s r : Nat) (I top sv rv inc : Int) (w : World) (h0 : 0 ≤ I) (h1 : I ≤ 4294967295) (hl : Last d I w)
    (hs : w.cell? ⟨s, 0, none⟩ = some (.int .i64 sv)) (hsf : w.frozen? ⟨s, 0, none⟩ = false) (hr : w.cell? ⟨r, 0, none⟩ = some (.int .i64 rv)) (hrf : w.frozen? ⟨r, 0, none⟩ = false) (hsr : s ≠ r)
    (hno : ¬ (top ≤ I / 262144 % 256 ∧ (I / 67108864 = 0 ∨ (I / 67108864 = 2 ∧ I % 262144 ≤ 255)))) :
    Calls Try.prog 22 #[.pointer (some ⟨d, 0, none⟩), .int .i64 top, .pointer (some ⟨s, 0, none⟩), .pointer (some ⟨r, 0, none⟩), .int .i64 inc] w fun e w' => e = .returned (.tuple #[]) ∧
      ∃ q, w' = ((w.drewN q).setCell ⟨s, 0, none⟩ (.int .i64 rv)).setCell ⟨r, 0, none⟩ (.int .i64 (wrap64 (rv + inc))) := by
  have HL := Lib.hid hl
  clear hl
  by_cases hA : top ≤ I / 262144 % 256
  · by_cases hop : I / 67108864 = 2
    · have hbx : ¬ (I % 262144 ≤ 255) := fun h => hno ⟨hA, .inr ⟨hop, h⟩⟩
      have HOP := Lib.hid hop
      clear hop hno
      go_enter Try.func22, Try.ntmps22
      go_wp2_with fail
      refine Calls.mono HL.out ?_; rintro e w' ⟨rfl, q, rfl⟩
      go_wp2_with fail
      refine (getA_c I h0 h1 _).mono ?_; rintro e w' ⟨rfl, rfl⟩
      go_wp2_with fail
      refine (getOp_c I h0 h1 _).mono ?_; rintro e w' ⟨rfl, rfl⟩
      rw [HOP.out]
      go_wp2_with fail
      refine (getBx_c I h0 h1 _).mono ?_; rintro e w' ⟨rfl, rfl⟩
      go_wp2_with fail
      go_end0
      exact ⟨rfl, q, rfl⟩
    · have hop0 : ¬ (I / 67108864 = 0) := fun h => hno ⟨hA, .inl h⟩
      clear hno
      have o2 : (I / 67108864 == 2) = false := by simp <;> omega
      have o0 : (I / 67108864 == 0) = false := by simp <;> omega
      clear hop hop0
      go_enter Try.func22, Try.ntmps22
      go_wp2_with fail
      refine Calls.mono HL.out ?_; rintro e w' ⟨rfl, q, rfl⟩
      go_wp2_with fail
      refine (getA_c I h0 h1 _).mono ?_; rintro e w' ⟨rfl, rfl⟩
      go_wp2_with fail
      refine (getOp_c I h0 h1 _).mono ?_; rintro e w' ⟨rfl, rfl⟩
      go_wp2_with fail
      go_end0
      exact ⟨rfl, q, rfl⟩
  · clear hno
    go_enter Try.func22, Try.ntmps22
    go_wp2_with fail
    refine Calls.mono HL.out ?_; rintro e w' ⟨rfl, q, rfl⟩
    go_wp2_with fail
    refine (getA_c I h0 h1 _).mono ?_; rintro e w' ⟨rfl, rfl⟩
    go_wp2_with fail
    go_end0
    exact ⟨rfl, q, rfl⟩
end Go.Proofs.Ytmlhjgledpglhaa
