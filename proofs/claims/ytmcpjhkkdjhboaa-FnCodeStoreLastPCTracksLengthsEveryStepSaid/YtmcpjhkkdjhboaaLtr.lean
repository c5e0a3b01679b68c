/-
  The walks through the laws on a code store under a script of Adds and Pops.
-/
import Derived.Test.YtmcpjhkkdjhboaaKeep
namespace Go.Proofs.Ytmcpjhkkdjhboaa
open Go.RowKit
set_option linter.unusedVariables false

set_option maxHeartbeats 600000 in
theorem law_tracks (A1 : Option Addr) (n1 c1 : Nat) (is : List Int) (A2 : Option Addr) (n2 c2 : Nat) (ls : List Int) (A3 : Option Addr) (n3 c3 : Nat) (ps : List Bool) (w : World)
    (g1 : Arg w A1 n1 c1 (is.map (Value.int .u32))) (r1 : ∀ x ∈ is, 0 ≤ x ∧ x ≤ 4294967295) (g2 : Arg w A2 n2 c2 (ls.map (Value.int .i64))) (r2 : ∀ x ∈ ls, -9223372036854775808 ≤ x ∧ x ≤ 9223372036854775807) (g3 : Arg w A3 n3 c3 (ps.map Value.bool)) :
    Calls Try.prog 8 #[.slice A1 n1 c1, .slice A2 n2 c2, .slice A3 n3 c3] w fun e w' => e = .returned (.bool true) ∧ Below w.heap.size w w' := by
  have m1 : n1 ≤ 9223372036854775807 := by have h1 := g1.2.1; have h2 := g1.2.2.1; unfold maxLen at h2; omega
  have m2 : n2 ≤ 9223372036854775807 := by have h1 := g2.2.1; have h2 := g2.2.2.1; unfold maxLen at h2; omega
  have m3 : n3 ≤ 9223372036854775807 := by have h1 := g3.2.1; have h2 := g3.2.2.1; unfold maxLen at h2; omega
  have G1 := Lib.hid g1
  have G2 := Lib.hid g2
  have G3 := Lib.hid g3
  have R1 := Lib.hid r1
  have R2 := Lib.hid r2
  clear g1 g2 g3 r1 r2
  by_cases hG : n1 ≤ 65536 ∧ n2 ≤ 65536 ∧ n3 ≤ 65536 ∧ 4 * n1 + 8 * n2 + n3 ≤ 1048576
  · obtain ⟨s1, s2, s3, s4⟩ := hG
    go_enter Try.func8, Try.ntmps8
    go_wp2_with (go_at_call 31; go_in)
    refine (copy_u32 A1 n1 c1 is _ G1.out (by omega)).mono ?_; rintro e w1 ⟨A1', k1, rfl, a1, b1, -⟩
    have M1 := Lib.hid a1
    have L1 := Lib.hid b1
    clear a1 b1
    go_wp2_with fail
    refine (copy_int A2 n2 c2 ls _ (G2.out.below L1.out) (by omega)).mono ?_; rintro e w2 ⟨A2', k2, rfl, a2, b2, -⟩
    have M2 := Lib.hid a2
    have L2 := Lib.hid b2
    clear a2 b2
    go_wp2_with fail
    refine (copy_bool A3 n3 c3 ps _ ((G3.out.below L1.out).below L2.out) (by omega)).mono ?_; rintro e w3 ⟨A3', k3, rfl, a3, b3, -⟩
    have M3 := Lib.hid a3
    have L3 := Lib.hid b3
    clear a3 b3
    go_wp2_with fail
    refine (zzN_c A1' A2' A3' n1 k1 n2 k2 n3 k3 s1 s2 s3 _).mono ?_; rintro e w' ⟨n, rfl, ⟨q1, q2, q3⟩, rfl⟩
    go_wp2_with fail
    refine (new_c _).mono ?_; rintro e w4 ⟨d, rfl, a4, b4⟩
    have hSc : Hid (Scr w3 A1' A2' A3' n1 k1 n2 k2 n3 k3 n is ls ps) := ⟨(M1.out.below L2.out).below L3.out, M2.out.below L3.out, M3.out, q1, q2, q3⟩
    have M4 := Lib.hid a4
    have L4 := Lib.hid b4
    have LW : Hid (Below w.heap.size w w3) := (L1.out.trans (L2.out.mono L1.out.size)).trans (L3.out.mono (Nat.le_trans L1.out.size L2.out.size))
    clear a4 b4
    go_wp2_with fail
    refine (lastPC_c _ w3.heap.size d _ _ M4.out).mono ?_; rintro e w' ⟨rfl, rfl⟩
    rw [show ((([] : List Int).length : Nat) : Int) - 1 = -1 by rfl]
    go_wp2_with fail
    refine (list_c _ w3.heap.size d _ _ M4.out).mono ?_; rintro e w' ⟨ga, ka, qa, rfl, xa, rfl⟩
    clear xa
    rw [List.length_nil]
    go_wp2_with fail
    refine (posList_c _ w3.heap.size d _ _ M4.out.drewN).mono ?_; rintro e w' ⟨gb, kb, qb, rfl, xb, rfl⟩
    clear xb
    rw [List.length_nil]
    have HT : Hid (Store (w4.drewN (qa + qb)) w3.heap.size d [] []) := M4.out
    have L5 : Hid (Below w3.heap.size w3 (w4.drewN (qa + qb))) := below_drewN L4.out _
    go_wp2_with fail
    go_loopw [9, 10] (fun dp i wr => ∃ k D : Nat, k ≤ n ∧ i = .int .i64 k ∧ dp = .int .i64 D ∧ (stk is ps k).length = D ∧ D ≤ k ∧ Hid (Store wr w3.heap.size d (stk is ps k) (stk ls ps k)) ∧ Below w3.heap.size w3 wr) (fun _ i _ => n - (intOf i).toNat)
    case atStart => exact ⟨0, 0, Nat.zero_le _, rfl, rfl, rfl, Nat.le_refl _, HT.out, L5.out⟩
    case round =>
      obtain ⟨k, D, hk, rfl, rfl, hlen, hDk, hSt, hbel⟩ := hrel
      have HLEN := Lib.hid hlen
      have HBEL := Lib.hid hbel
      clear hlen hbel
      by_cases hlt : k < n
      · obtain ⟨b1, o1, u1, e1, x1, cell1, lt1⟩ := hSc.out.a1.at_ HBEL.out (k := k) (by omega)
        obtain ⟨b2, o2, u2, e2, x2, cell2, lt2⟩ := hSc.out.a2.at_ HBEL.out (k := k) (by omega)
        obtain ⟨b3, o3, u3, e3, x3, cell3, lt3⟩ := hSc.out.a3.at_ HBEL.out (k := k) (by omega)
        subst e1 e2 e3
        obtain ⟨x, X1, rfl⟩ := map_get x1
        obtain ⟨l, X2, rfl⟩ := map_get x2
        obtain ⟨q, X3, rfl⟩ := map_get x3
        have i0 : (0 : Int) ≤ (k : Int) := by omega
        have i1 : (k : Int) < (n1 : Int) := by omega
        have i2 : (k : Int) < (n2 : Int) := by omega
        have i3 : (k : Int) < (n3 : Int) := by omega
        have SL := Lib.hid (stk_len is ls ps k)
        have hsz : (stk is ps k).length < 65536 := by rw [HLEN.out]; omega
        have Y1 := Lib.hid X1
        have Y2 := Lib.hid X2
        have Y3 := Lib.hid X3
        clear x1 x2 x3 X1 X2 X3
        cases q
        · have E1 := stk_push (xs := is) Y3.out Y1.out (by simp)
          have E2 := stk_push (xs := ls) Y3.out Y2.out (by simp)
          have T : Hid (stk is ps (k + 1) = stk is ps k ++ [x] ∧ stk ls ps (k + 1) = stk ls ps k ++ [l]) := ⟨E1, E2⟩
          clear E1 E2
          go_wp2_with fail
          go_still_tail 9, (by kernel_rfl)
          go_wp2_with fail
          refine (add_c _ w3.heap.size d (stk is ps k) (stk ls ps k) x l hSt.out.drew (by omega)).mono ?_
          rintro e w7 ⟨rfl, hst1, hb1, -⟩
          rw [← T.out.1, ← T.out.2] at hst1
          have HT1 := Lib.hid hst1
          have HBN : Hid (Below w3.heap.size w3 w7) := HBEL.out.drew.trans hb1
          have hN : (stk is ps (k + 1)).length = D + 1 := by rw [T.out.1, List.length_append, HLEN.out]; rfl
          clear hst1 hb1
          generalize hNN : D + 1 = N at *
          have hNi : (D : Int) + 1 = (N : Int) := by omega
          have HNi : Hid (N ≤ D + 1) := by show N ≤ D + 1; omega
          have HN : Hid ((stk is ps (k + 1)).length = N) := hN
          have HN2 : Hid ((stk ls ps (k + 1)).length = N) := by show _ = _; rw [← hN]; exact (stk_len is ls ps (k + 1)).symm
          clear hNN hN
          go_wp2_with fail
          refine (lastPC_c _ w3.heap.size d _ _ HT1.out).mono ?_; rintro e w' ⟨rfl, rfl⟩
          rw [HN.out]
          go_wp2_with fail
          refine (list_c _ w3.heap.size d _ _ HT1.out).mono ?_; rintro e w' ⟨gc, kc, qc, rfl, xc, rfl⟩
          clear xc
          rw [HN.out]
          go_wp2_with fail
          refine (posList_c _ w3.heap.size d _ _ HT1.out.drewN).mono ?_; rintro e w' ⟨ge, ke, qe, rfl, xe, rfl⟩
          clear xe
          rw [HN2.out]
          go_wp2_with fail
          go_roundw
          case rel => exact ⟨k + 1, N, by omega, rfl, by go_num, HN.out, by have := HNi.out; omega, HT1.out.drewN, below_drewN HBN.out (qc + qe)⟩
          case measure => simp [intOf]; omega
        · rcases hD0 : D with _ | D'
          · have E1 := stk_push (xs := is) Y3.out Y1.out (by rw [HLEN.out, hD0]; simp)
            have E2 := stk_push (xs := ls) Y3.out Y2.out (by rw [← SL.out, HLEN.out, hD0]; simp)
            subst hD0
            have T : Hid (stk is ps (k + 1) = stk is ps k ++ [x] ∧ stk ls ps (k + 1) = stk ls ps k ++ [l]) := ⟨E1, E2⟩
            clear E1 E2
            go_wp2_with fail
            go_still_tail 9, (by kernel_rfl)
            go_wp2_with fail
            refine (add_c _ w3.heap.size d (stk is ps k) (stk ls ps k) x l hSt.out.drew (by omega)).mono ?_
            rintro e w7 ⟨rfl, hst1, hb1, -⟩
            rw [← T.out.1, ← T.out.2] at hst1
            have HT1 := Lib.hid hst1
            have HBN : Hid (Below w3.heap.size w3 w7) := HBEL.out.drew.trans hb1
            have hN : (stk is ps (k + 1)).length = 0 + 1 := by rw [T.out.1, List.length_append, HLEN.out]; rfl
            clear hst1 hb1
            generalize hNN : 0 + 1 = N at *
            have hNi : ((0 : Nat) : Int) + 1 = (N : Int) := by omega
            have HNi : Hid (N ≤ 0 + 1) := by show N ≤ 0 + 1; omega
            have HN : Hid ((stk is ps (k + 1)).length = N) := hN
            have HN2 : Hid ((stk ls ps (k + 1)).length = N) := by show _ = _; rw [← hN]; exact (stk_len is ls ps (k + 1)).symm
            clear hNN hN
            go_wp2_with fail
            refine (lastPC_c _ w3.heap.size d _ _ HT1.out).mono ?_; rintro e w' ⟨rfl, rfl⟩
            rw [HN.out]
            go_wp2_with fail
            refine (list_c _ w3.heap.size d _ _ HT1.out).mono ?_; rintro e w' ⟨gc, kc, qc, rfl, xc, rfl⟩
            clear xc
            rw [HN.out]
            go_wp2_with fail
            refine (posList_c _ w3.heap.size d _ _ HT1.out.drewN).mono ?_; rintro e w' ⟨ge, ke, qe, rfl, xe, rfl⟩
            clear xe
            rw [HN2.out]
            go_wp2_with fail
            go_roundw
            case rel => exact ⟨k + 1, N, by omega, rfl, by go_num, HN.out, by have := HNi.out; omega, HT1.out.drewN, below_drewN HBN.out (qc + qe)⟩
            case measure => simp [intOf]; omega
          · subst hD0
            have hpos : (0 : Int) < (((D' + 1 : Nat)) : Int) := by omega
            have hpos' : (0 : Int) < (D' : Int) + 1 := by omega
            have E1 := stk_pop (xs := is) Y3.out (by rw [HLEN.out]; omega)
            have E2 := stk_pop (xs := ls) Y3.out (by rw [← SL.out, HLEN.out]; omega)
            have T : Hid (stk is ps (k + 1) = (stk is ps k).dropLast ∧ stk ls ps (k + 1) = (stk ls ps k).dropLast) := ⟨E1, E2⟩
            clear E1 E2
            go_wp2_with fail
            refine (pop_c _ w3.heap.size d (stk is ps k) (stk ls ps k) hSt.out (by rw [HLEN.out]; omega)).mono ?_
            rintro e w7 ⟨rfl, hst1, hb1, -⟩
            rw [← T.out.1, ← T.out.2] at hst1
            have HT1 := Lib.hid hst1
            have HBN : Hid (Below w3.heap.size w3 w7) := HBEL.out.trans hb1
            have hN : (stk is ps (k + 1)).length = D' := by rw [T.out.1, List.length_dropLast, HLEN.out]; rfl
            clear hst1 hb1
            obtain ⟨N, hNN⟩ : ∃ N, N = D' := ⟨_, rfl⟩
            subst hNN
            have HNi : Hid (N ≤ N + 1) := by show N ≤ N + 1; omega
            have HN : Hid ((stk is ps (k + 1)).length = N) := hN
            have HN2 : Hid ((stk ls ps (k + 1)).length = N) := by show _ = _; rw [← hN]; exact (stk_len is ls ps (k + 1)).symm
            clear hN
            go_wp2_with fail
            refine (lastPC_c _ w3.heap.size d _ _ HT1.out).mono ?_; rintro e w' ⟨rfl, rfl⟩
            rw [HN.out]
            go_wp2_with fail
            refine (list_c _ w3.heap.size d _ _ HT1.out).mono ?_; rintro e w' ⟨gc, kc, qc, rfl, xc, rfl⟩
            clear xc
            rw [HN.out]
            go_wp2_with fail
            refine (posList_c _ w3.heap.size d _ _ HT1.out.drewN).mono ?_; rintro e w' ⟨ge, ke, qe, rfl, xe, rfl⟩
            clear xe
            rw [HN2.out]
            go_wp2_with fail
            go_roundw
            case rel => exact ⟨k + 1, N, by omega, rfl, by go_num, HN.out, by omega, HT1.out.drewN, below_drewN HBN.out (qc + qe)⟩
            case measure => simp [intOf]; omega
      · obtain rfl : k = n := by omega
        go_wp2_with fail
        go_ret
        exact ⟨rfl, LW.out.trans (HBEL.out.mono LW.out.size)⟩
  · have hG' : 65536 < n1 ∨ 65536 < n2 ∨ 65536 < n3 ∨ 1048576 < 4 * n1 + 8 * n2 + n3 := by omega
    clear hG
    go_enter Try.func8, Try.ntmps8
    go_wp2_with (go_at_call 31; go_in)
    all_goals (go_ret; exact ⟨rfl, Below.refl _ _⟩)

end Go.Proofs.Ytmcpjhkkdjhboaa
