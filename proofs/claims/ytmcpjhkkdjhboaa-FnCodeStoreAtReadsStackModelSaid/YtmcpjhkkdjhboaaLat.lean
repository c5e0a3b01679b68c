/-
  The walks through the laws on a code store under a script of Adds and Pops.
-/
import Derived.Test.YtmcpjhkkdjhboaaKeep
namespace Go.Proofs.Ytmcpjhkkdjhboaa
open Go.RowKit
set_option linter.unusedVariables false

set_option maxHeartbeats 2000000 in
theorem law_at (A1 : Option Addr) (n1 c1 : Nat) (is : List Int) (A2 : Option Addr) (n2 c2 : Nat) (ls : List Int) (A3 : Option Addr) (n3 c3 : Nat) (ps : List Bool) (w : World)
    (g1 : Arg w A1 n1 c1 (is.map (Value.int .u32))) (r1 : ∀ x ∈ is, 0 ≤ x ∧ x ≤ 4294967295) (g2 : Arg w A2 n2 c2 (ls.map (Value.int .i64))) (r2 : ∀ x ∈ ls, -9223372036854775808 ≤ x ∧ x ≤ 9223372036854775807) (g3 : Arg w A3 n3 c3 (ps.map Value.bool)) :
    Calls Try.prog 6 #[.slice A1 n1 c1, .slice A2 n2 c2, .slice A3 n3 c3] w fun e w' => e = .returned (.bool true) ∧ Below w.heap.size w w' := by
  have m1 : n1 ≤ 9223372036854775807 := by have h1 := g1.2.1; have h2 := g1.2.2.1; unfold maxLen at h2; omega
  have m2 : n2 ≤ 9223372036854775807 := by have h1 := g2.2.1; have h2 := g2.2.2.1; unfold maxLen at h2; omega
  have m3 : n3 ≤ 9223372036854775807 := by have h1 := g3.2.1; have h2 := g3.2.2.1; unfold maxLen at h2; omega
  have G1 := Lib.hid g1
  have G2 := Lib.hid g2
  have G3 := Lib.hid g3
  have R1 := Lib.hid r1
  have R2 := Lib.hid r2
  clear g1 g2 g3 r1 r2
  by_cases hG : n1 ≤ 65536 ∧ n2 ≤ 65536 ∧ n3 ≤ 65536 ∧ 4 * n1 + 8 * n2 + n3 ≤ 1048576
  · obtain ⟨s1, s2, s3, s4⟩ := hG
    go_enter Try.func6, Try.ntmps6
    go_wp2_with (go_at_call 27; go_in)
    refine (copy_u32 A1 n1 c1 is _ G1.out (by omega)).mono ?_; rintro e w1 ⟨A1', k1, rfl, a1, b1, -⟩
    have M1 := Lib.hid a1
    have L1 := Lib.hid b1
    clear a1 b1
    go_wp2_with fail
    refine (copy_int A2 n2 c2 ls _ (G2.out.below L1.out) (by omega)).mono ?_; rintro e w2 ⟨A2', k2, rfl, a2, b2, -⟩
    have M2 := Lib.hid a2
    have L2 := Lib.hid b2
    clear a2 b2
    go_wp2_with fail
    refine (copy_bool A3 n3 c3 ps _ ((G3.out.below L1.out).below L2.out) (by omega)).mono ?_; rintro e w3 ⟨A3', k3, rfl, a3, b3, -⟩
    have M3 := Lib.hid a3
    have L3 := Lib.hid b3
    clear a3 b3
    go_wp2_with fail
    refine (zzN_c A1' A2' A3' n1 k1 n2 k2 n3 k3 s1 s2 s3 _).mono ?_; rintro e w' ⟨n, rfl, ⟨q1, q2, q3⟩, rfl⟩
    go_wp2_with fail
    refine (new_c _).mono ?_; rintro e w4 ⟨d, rfl, a4, b4⟩
    have hSc : Hid (Scr w3 A1' A2' A3' n1 k1 n2 k2 n3 k3 n is ls ps) := ⟨(M1.out.below L2.out).below L3.out, M2.out.below L3.out, M3.out, q1, q2, q3⟩
    have M4 := Lib.hid a4
    have L4 := Lib.hid b4
    have LW : Hid (Below w.heap.size w w3) := (L1.out.trans (L2.out.mono L1.out.size)).trans (L3.out.mono (Nat.le_trans L1.out.size L2.out.size))
    clear a4 b4
    go_wp2_with fail
    refine (run_c w3 w4 d A1' A2' A3' n1 k1 n2 k2 n3 k3 n is ls ps hSc.out (by omega) L4.out M4.out).mono ?_; rintro e w5 ⟨a, p, rfl, u1, u2, a5, b5⟩
    have M5 := Lib.hid a5
    have L5 : Hid (Below w3.heap.size w3 w5) := L4.out.trans b5
    have U2 := Lib.hid u2
    have hsl := stk_le is ps n
    clear a5 b5 u2
    go_wp2_with fail
    refine (modelI w3 _ A1' A3' n1 k1 n3 k3 n is ps hSc.out.a1 hSc.out.a3 q1 q3 (by omega) L5.out).mono ?_; rintro e w6 ⟨g6, k6, rfl, x6, b6⟩
    have X6 := Lib.hid x6
    have L6 : Hid (Below w3.heap.size w3 w6) := L5.out.trans (b6.mono L5.out.size)
    have M6 := Lib.hid (M5.out.below b6)
    clear x6 b6
    generalize hS : stk is ps n = S at *
    clear hS
    have hm : S.length ≤ 65536 := by omega
    go_wp2_with fail
    refine (lastPC_c _ w3.heap.size d _ _ M6.out).mono ?_; rintro e w' ⟨rfl, rfl⟩
    have hfin : ((((S.length : Int) - 1 + 1)) == (S.length : Int)) = true := by simp
    go_wp2_with fail
    go_loopw [10] (fun i wr => ∃ k q : Nat, k ≤ S.length ∧ i = .int .i64 k ∧ wr = w6.drewN q) (fun i _ => S.length - (intOf i).toNat)
    case atStart => exact ⟨0, 0, Nat.zero_le _, rfl, rfl⟩
    case round =>
      obtain ⟨k, q, hk, rfl, rfl⟩ := hrel
      by_cases hlt : k < S.length
      · obtain ⟨z, hz⟩ : ∃ z, S[k]? = some z := ⟨S[k], List.getElem?_eq_getElem _⟩
        obtain ⟨b, o, e, hb, hc⟩ := X6.out.2.2.2.2 (by omega)
        obtain ⟨rfl, rfl⟩ : g6 = b ∧ 0 = o := by simpa using e
        have c1 : w6.cell? ⟨g6, k, none⟩ = some (.int .u32 z) := by have := hc k _ (by rw [List.getElem?_map, hz]; rfl); simpa using this
        have i0 : (0 : Int) ≤ (k : Int) := by omega
        have i1 : (k : Int) < (S.length : Int) := by omega
        have HZ := Lib.hid hz
        clear hz hc e
        go_wp2_with fail
        go_quiet ((go_at_call 28; exact quiet_more (at_c _ w3.heap.size d S _ k z M6.out.drewN HZ.out)))
        go_wp2_with fail
        go_roundw
        case rel => exact ⟨k + 1, _, by omega, by go_num, rfl⟩
        case measure => simp [intOf]; omega
      · obtain rfl : k = S.length := by omega
        go_wp2_with fail
        go_ret
        exact ⟨rfl, below_drewN (LW.out.trans (L6.out.mono LW.out.size)) _⟩
  · have hG' : 65536 < n1 ∨ 65536 < n2 ∨ 65536 < n3 ∨ 1048576 < 4 * n1 + 8 * n2 + n3 := by omega
    clear hG
    go_enter Try.func6, Try.ntmps6
    go_wp2_with (go_at_call 27; go_in)
    all_goals (go_ret; exact ⟨rfl, Below.refl _ _⟩)

end Go.Proofs.Ytmcpjhkkdjhboaa
