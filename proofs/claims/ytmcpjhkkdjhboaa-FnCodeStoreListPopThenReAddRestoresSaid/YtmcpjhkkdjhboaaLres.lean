/-
  The walks through the laws on a code store under a script of Adds and Pops.
-/
import Derived.Test.YtmcpjhkkdjhboaaKeep
namespace Go.Proofs.Ytmcpjhkkdjhboaa
open Go.RowKit
set_option linter.unusedVariables false

set_option maxHeartbeats 600000 in
theorem law_restores (A1 : Option Addr) (n1 c1 : Nat) (is : List Int) (A2 : Option Addr) (n2 c2 : Nat) (ls : List Int) (A3 : Option Addr) (n3 c3 : Nat) (ps : List Bool) (w : World)
    (g1 : Arg w A1 n1 c1 (is.map (Value.int .u32))) (r1 : ∀ x ∈ is, 0 ≤ x ∧ x ≤ 4294967295) (g2 : Arg w A2 n2 c2 (ls.map (Value.int .i64))) (r2 : ∀ x ∈ ls, -9223372036854775808 ≤ x ∧ x ≤ 9223372036854775807) (g3 : Arg w A3 n3 c3 (ps.map Value.bool)) :
    Calls Try.prog 9 #[.slice A1 n1 c1, .slice A2 n2 c2, .slice A3 n3 c3] w fun e w' => e = .returned (.bool true) ∧ Below w.heap.size w w' := by
  have m1 : n1 ≤ 9223372036854775807 := by have h1 := g1.2.1; have h2 := g1.2.2.1; unfold maxLen at h2; omega
  have m2 : n2 ≤ 9223372036854775807 := by have h1 := g2.2.1; have h2 := g2.2.2.1; unfold maxLen at h2; omega
  have m3 : n3 ≤ 9223372036854775807 := by have h1 := g3.2.1; have h2 := g3.2.2.1; unfold maxLen at h2; omega
  have G1 := Lib.hid g1
  have G2 := Lib.hid g2
  have G3 := Lib.hid g3
  have R1 := Lib.hid r1
  have R2 := Lib.hid r2
  clear g1 g2 g3 r1 r2
  by_cases hG : n1 ≤ 65536 ∧ n2 ≤ 65536 ∧ n3 ≤ 65536 ∧ 4 * n1 + 8 * n2 + n3 ≤ 1048576
  · obtain ⟨s1, s2, s3, s4⟩ := hG
    go_enter Try.func9, Try.ntmps9
    go_wp2_with (go_at_call 33; go_in)
    refine (copy_u32 A1 n1 c1 is _ G1.out (by omega)).mono ?_; rintro e w1 ⟨A1', k1, rfl, a1, b1, -⟩
    have M1 := Lib.hid a1
    have L1 := Lib.hid b1
    clear a1 b1
    go_wp2_with fail
    refine (copy_int A2 n2 c2 ls _ (G2.out.below L1.out) (by omega)).mono ?_; rintro e w2 ⟨A2', k2, rfl, a2, b2, -⟩
    have M2 := Lib.hid a2
    have L2 := Lib.hid b2
    clear a2 b2
    go_wp2_with fail
    refine (copy_bool A3 n3 c3 ps _ ((G3.out.below L1.out).below L2.out) (by omega)).mono ?_; rintro e w3 ⟨A3', k3, rfl, a3, b3, -⟩
    have M3 := Lib.hid a3
    have L3 := Lib.hid b3
    clear a3 b3
    go_wp2_with fail
    refine (zzN_c A1' A2' A3' n1 k1 n2 k2 n3 k3 s1 s2 s3 _).mono ?_; rintro e w' ⟨n, rfl, ⟨q1, q2, q3⟩, rfl⟩
    go_wp2_with fail
    refine (new_c _).mono ?_; rintro e w4 ⟨d, rfl, a4, b4⟩
    have hSc : Hid (Scr w3 A1' A2' A3' n1 k1 n2 k2 n3 k3 n is ls ps) := ⟨(M1.out.below L2.out).below L3.out, M2.out.below L3.out, M3.out, q1, q2, q3⟩
    have M4 := Lib.hid a4
    have L4 := Lib.hid b4
    have LW : Hid (Below w.heap.size w w3) := (L1.out.trans (L2.out.mono L1.out.size)).trans (L3.out.mono (Nat.le_trans L1.out.size L2.out.size))
    clear a4 b4
    go_wp2_with fail
    refine (run_c w3 w4 d A1' A2' A3' n1 k1 n2 k2 n3 k3 n is ls ps hSc.out (by omega) L4.out M4.out).mono ?_; rintro e w5 ⟨a, p, rfl, u1, u2, a5, b5⟩
    have M5 := Lib.hid a5
    have L5 : Hid (Below w3.heap.size w3 w5) := L4.out.trans b5
    have U2 := Lib.hid u2
    have hsl := stk_le is ps n
    clear a5 b5 u2
    go_wp2_with fail
    have hll := stk_len ls is ps n
    generalize hS : stk is ps n = S at *
    generalize hL : stk ls ps n = L at *
    clear hS hL
    refine (lastPC_c _ w3.heap.size d _ _ M5.out).mono ?_; rintro e w' ⟨rfl, rfl⟩
    rcases hm : S.length with _ | m
    · have hneg : ((0 : Nat) : Int) - 1 < 0 := by omega
      go_wp2_with fail
      go_ret
      exact ⟨rfl, LW.out.trans (L5.out.mono LW.out.size)⟩
    rw [show (((m + 1 : Nat) : Int) - 1) = (m : Int) by omega]
    have hneg : ¬ ((m : Int) < 0) := by omega
    rw [hm] at hll
    have HS := Lib.hid hm
    have HL := Lib.hid hll
    have hmm : m + 1 ≤ 65536 := by omega
    obtain ⟨x, hx⟩ : ∃ x, S[m]? = some x := ⟨S[m], List.getElem?_eq_getElem _⟩
    obtain ⟨l, hl⟩ : ∃ l, L[m]? = some l := ⟨L[m], List.getElem?_eq_getElem _⟩
    have HSX := Lib.hid (snoc_back hm hx)
    have HLX := Lib.hid (snoc_back hll hl)
    have HX := Lib.hid hx
    have HY := Lib.hid hl
    clear hm hll hx hl U2 hsl
    go_wp2_with fail
    refine (list_c w5 w3.heap.size d _ _ M5.out).mono ?_; rintro e w' ⟨gb, kb, qb, rfl, xb, rfl⟩
    rw [HS.out] at xb ⊢
    have XB := Lib.hid xb
    clear xb
    go_wp2_with fail
    refine (copy_u32 _ _ _ S _ (Arg.drewN XB.out) (by omega)).mono ?_; rintro e w6 ⟨Ab, k6, rfl, x6, b6, y6⟩
    have M6 := Lib.hid (M5.out.drewN.below b6)
    have X6 := Lib.hid x6
    have Y6 := Lib.hid (M5.out.drewN.new_out b6 y6)
    have L6 : Hid (Below w3.heap.size w3 w6) := (below_drewN L5.out qb).trans (b6.mono (below_drewN L5.out qb).size)
    clear x6 b6 y6
    go_wp2_with fail
    refine (posList_c w6 w3.heap.size d _ _ M6.out).mono ?_; rintro e w' ⟨gc, kc, qc, rfl, xc, rfl⟩
    rw [HL.out] at xc ⊢
    have XC := Lib.hid xc
    clear xc
    go_wp2_with fail
    refine (copy_int _ _ _ L _ (Arg.drewN XC.out) (by omega)).mono ?_; rintro e w7 ⟨Ac, k7, rfl, x7, b7, y7⟩
    have M7 := Lib.hid (M6.out.drewN.below b7)
    have X7 := Lib.hid x7
    have X67 := Lib.hid (Arg.below (X6.out.drewN (q := qc)) b7)
    have Y7 := Lib.hid (M6.out.drewN.new_out b7 y7)
    have Y67 : Hid (∀ a, Ab = some a → ¬ Fp w7 d a.block) := fun a e hf => Y6.out a e (M6.out.drewN.fp_below b7 hf)
    have L7 : Hid (Below w3.heap.size w3 w7) := (below_drewN L6.out qc).trans (b7.mono (below_drewN L6.out qc).size)
    clear x7 b7 y7
    obtain ⟨b6, o6, rfl, hb6, hc6⟩ := X67.out.2.2.2.2 (by omega)
    obtain ⟨b7, o7, rfl, hb7, hc7⟩ := X7.out.2.2.2.2 (by omega)
    have c6 := hc6 m (.int .u32 x) (by rw [List.getElem?_map, HX.out]; rfl)
    have c7 := hc7 m (.int .i64 l) (by rw [List.getElem?_map, HY.out]; rfl)
    clear hc6 hc7 hb6 hb7
    have hk6 : m + 1 ≤ k6 := X67.out.2.1
    have j0 : (0 : Int) ≤ (m : Int) := by omega
    have j1 : (m : Int) < ((m + 1 : Nat) : Int) := by omega
    have j1' : (m : Int) < (m : Int) + 1 := by omega
    have j2 : (m : Int) ≤ (k6 : Int) := by omega
    go_wp2_with fail
    refine (pop_c w7 w3.heap.size d S L M7.out (by rw [HS.out]; omega)).mono ?_; rintro e w8 ⟨rfl, a8, b8, f8⟩
    have M8 := Lib.hid a8
    have X8 := Lib.hid (X67.out.far f8 Y67.out)
    have X9 := Lib.hid (X7.out.far f8 Y7.out)
    have Y8 : Hid (∀ a, (some ⟨b6, o6, none⟩ : Option Addr) = some a → ¬ Fp w8 d a.block) := fun a e hf => by
      rcases f8.grow _ hf with h | h
      · exact Y67.out a e h
      · have := (X67.out.2.2.2.2 (by omega)); obtain ⟨b', o', e', hlt, _⟩ := this; rw [e] at e'; cases e'; exact absurd h (by simp; omega)
    have Y9 : Hid (∀ a, (some ⟨b7, o7, none⟩ : Option Addr) = some a → ¬ Fp w8 d a.block) := fun a e hf => by
      rcases f8.grow _ hf with h | h
      · exact Y7.out a e h
      · have := (X7.out.2.2.2.2 (by omega)); obtain ⟨b', o', e', hlt, _⟩ := this; rw [e] at e'; cases e'; exact absurd h (by simp; omega)
    have L8 : Hid (Below w3.heap.size w3 w8) := L7.out.trans b8
    clear a8 b8 f8 c6 c7
    go_wp2_with fail
    have hd1 : S.dropLast.length = m := by rw [List.length_dropLast, HS.out]; rfl
    refine (lastPC_c _ w3.heap.size d _ _ M8.out).mono ?_; rintro e w' ⟨rfl, rfl⟩
    rw [hd1]
    have hfin : (((m : Int) - 1) == ((m : Int) - 1)) = true := by simp
    obtain ⟨gd, kd, xd, qd⟩ := list_ex M8.out
    rw [hd1] at xd qd
    clear hd1
    have XD := Lib.hid xd
    have QD := Lib.hid qd
    have XE : Hid (Arg w8 (some ⟨b6, o6, none⟩) m k6 (S.dropLast.map (Value.int .u32))) := Arg.left X8.out ((List.dropLast_prefix S).map _) (by rw [List.length_map, List.length_dropLast, HS.out]; rfl)
    clear xd qd
    go_wp2_with fail
    go_quiet (first
      | (go_at_call 21; exact Calls.quiet_of (QD.out _))
      | (go_at_call 20; exact Calls.quiet_of (eqU32_c _ _ _ _ _ S.dropLast _ (by omega) XD.out.drewN XE.out.drewN)))
    clear hfin
    go_wp2_with fail
    refine (add_c _ w3.heap.size d S.dropLast L.dropLast x l M8.out.drewN (by rw [List.length_dropLast, HS.out]; omega)).mono ?_; rintro e w9 ⟨rfl, a9, b9, f9⟩
    rw [HSX.out, HLX.out] at a9
    have X10 := Lib.hid (Arg.far (X8.out.drewN) f9 Y8.out)
    have X11 := Lib.hid (Arg.far (X9.out.drewN) f9 Y9.out)
    have L9 : Hid (Below w3.heap.size w3 w9) := (below_drewN L8.out _).trans b9
    have M9 := Lib.hid a9
    clear a9 b9 f9
    go_wp2_with fail
    refine (list_c w9 w3.heap.size d _ _ M9.out).mono ?_; rintro e w' ⟨ge, ke, qe, rfl, xe, rfl⟩
    rw [HS.out] at xe ⊢
    have Xe := Lib.hid xe
    clear xe
    go_wp2_with fail
    refine (eqU32_c _ _ _ _ _ S _ (by omega) Xe.out.drewN X10.out.drewN).mono ?_; rintro e w' ⟨rfl, qe2, rfl⟩
    go_wp2_with fail
    refine (posList_c _ w3.heap.size d _ _ M9.out.drewN).mono ?_; rintro e w' ⟨gf, kf, qf, rfl, xf, rfl⟩
    rw [HL.out] at xf ⊢
    have Xf := Lib.hid xf
    clear xf
    go_wp2_with fail
    refine (eqInt_c _ _ _ _ _ L (w9.drewN (qe + qe2 + qf)) (by omega) Xf.out X11.out).mono ?_; rintro e w' ⟨rfl, qf2, rfl⟩
    go_wp2_with fail
    go_ret
    exact ⟨rfl, below_drewN (LW.out.trans (L9.out.mono LW.out.size)) _⟩
  · have hG' : 65536 < n1 ∨ 65536 < n2 ∨ 65536 < n3 ∨ 1048576 < 4 * n1 + 8 * n2 + n3 := by omega
    clear hG
    go_enter Try.func9, Try.ntmps9
    go_wp2_with (go_at_call 33; go_in)
    all_goals (go_ret; exact ⟨rfl, Below.refl _ _⟩)

end Go.Proofs.Ytmcpjhkkdjhboaa
