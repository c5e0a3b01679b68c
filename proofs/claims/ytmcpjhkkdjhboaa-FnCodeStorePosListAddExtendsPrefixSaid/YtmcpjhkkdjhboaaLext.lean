/-
  The walks through the laws on a code store under a script of Adds and Pops.
-/
import Derived.Test.YtmcpjhkkdjhboaaKeep
namespace Go.Proofs.Ytmcpjhkkdjhboaa
open Go.RowKit
set_option linter.unusedVariables false

set_option maxHeartbeats 600000 in
theorem law_extends (A1 : Option Addr) (n1 c1 : Nat) (is : List Int) (A2 : Option Addr) (n2 c2 : Nat) (ls : List Int) (A3 : Option Addr) (n3 c3 : Nat) (ps : List Bool) (x : Int) (l : Int) (w : World)
    (g1 : Arg w A1 n1 c1 (is.map (Value.int .u32))) (r1 : ∀ x ∈ is, 0 ≤ x ∧ x ≤ 4294967295) (g2 : Arg w A2 n2 c2 (ls.map (Value.int .i64))) (r2 : ∀ x ∈ ls, -9223372036854775808 ≤ x ∧ x ≤ 9223372036854775807) (g3 : Arg w A3 n3 c3 (ps.map Value.bool)) (hvx : 0 ≤ x ∧ x ≤ 4294967295) (hvl : -9223372036854775808 ≤ l ∧ l ≤ 9223372036854775807) :
    Calls Try.prog 7 #[.slice A1 n1 c1, .slice A2 n2 c2, .slice A3 n3 c3, .int .u32 x, .int .i64 l] w fun e w' => e = .returned (.bool true) ∧ Below w.heap.size w w' := by
  have m1 : n1 ≤ 9223372036854775807 := by have h1 := g1.2.1; have h2 := g1.2.2.1; unfold maxLen at h2; omega
  have m2 : n2 ≤ 9223372036854775807 := by have h1 := g2.2.1; have h2 := g2.2.2.1; unfold maxLen at h2; omega
  have m3 : n3 ≤ 9223372036854775807 := by have h1 := g3.2.1; have h2 := g3.2.2.1; unfold maxLen at h2; omega
  have G1 := Lib.hid g1
  have G2 := Lib.hid g2
  have G3 := Lib.hid g3
  have R1 := Lib.hid r1
  have R2 := Lib.hid r2
  clear g1 g2 g3 r1 r2
  by_cases hG : n1 ≤ 65536 ∧ n2 ≤ 65536 ∧ n3 ≤ 65536 ∧ 4 * n1 + 8 * n2 + n3 ≤ 1048576
  · obtain ⟨s1, s2, s3, s4⟩ := hG
    go_enter Try.func7, Try.ntmps7
    go_wp2_with (go_at_call 29; go_in)
    refine (copy_u32 A1 n1 c1 is _ G1.out (by omega)).mono ?_; rintro e w1 ⟨A1', k1, rfl, a1, b1, -⟩
    have M1 := Lib.hid a1
    have L1 := Lib.hid b1
    clear a1 b1
    go_wp2_with fail
    refine (copy_int A2 n2 c2 ls _ (G2.out.below L1.out) (by omega)).mono ?_; rintro e w2 ⟨A2', k2, rfl, a2, b2, -⟩
    have M2 := Lib.hid a2
    have L2 := Lib.hid b2
    clear a2 b2
    go_wp2_with fail
    refine (copy_bool A3 n3 c3 ps _ ((G3.out.below L1.out).below L2.out) (by omega)).mono ?_; rintro e w3 ⟨A3', k3, rfl, a3, b3, -⟩
    have M3 := Lib.hid a3
    have L3 := Lib.hid b3
    clear a3 b3
    go_wp2_with fail
    refine (zzN_c A1' A2' A3' n1 k1 n2 k2 n3 k3 s1 s2 s3 _).mono ?_; rintro e w' ⟨n, rfl, ⟨q1, q2, q3⟩, rfl⟩
    go_wp2_with fail
    refine (new_c _).mono ?_; rintro e w4 ⟨d, rfl, a4, b4⟩
    have hSc : Hid (Scr w3 A1' A2' A3' n1 k1 n2 k2 n3 k3 n is ls ps) := ⟨(M1.out.below L2.out).below L3.out, M2.out.below L3.out, M3.out, q1, q2, q3⟩
    have M4 := Lib.hid a4
    have L4 := Lib.hid b4
    have LW : Hid (Below w.heap.size w w3) := (L1.out.trans (L2.out.mono L1.out.size)).trans (L3.out.mono (Nat.le_trans L1.out.size L2.out.size))
    clear a4 b4
    go_wp2_with fail
    refine (run_c w3 w4 d A1' A2' A3' n1 k1 n2 k2 n3 k3 n is ls ps hSc.out (by omega) L4.out M4.out).mono ?_; rintro e w5 ⟨a, p, rfl, u1, u2, a5, b5⟩
    have M5 := Lib.hid a5
    have L5 : Hid (Below w3.heap.size w3 w5) := L4.out.trans b5
    have U2 := Lib.hid u2
    have hsl := stk_le is ps n
    clear a5 b5 u2
    go_wp2_with fail
    have hll := stk_len ls is ps n
    generalize hS : stk is ps n = S at *
    generalize hL : stk ls ps n = L at *
    clear hS hL
    have hm : S.length ≤ 65536 := by omega
    have hm2 : L.length ≤ 65536 := by omega
    have HLL := Lib.hid hll
    clear hll
    refine (posList_c w5 w3.heap.size d _ _ M5.out).mono ?_; rintro e w' ⟨gb, kb, qb, rfl, xb, rfl⟩
    have XB := Lib.hid xb
    clear xb
    go_wp2_with fail
    refine (copy_int _ _ _ L _ (Arg.drewN XB.out) (by omega)).mono ?_; rintro e w6 ⟨Ab, k6, rfl, x6, b6, y6⟩
    have M6 := Lib.hid (M5.out.drewN.below b6)
    have X6 := Lib.hid x6
    have Y6 := Lib.hid (M5.out.drewN.new_out b6 y6)
    have L6 : Hid (Below w3.heap.size w3 w6) := (below_drewN L5.out qb).trans (b6.mono (below_drewN L5.out qb).size)
    clear x6 b6 y6
    go_wp2_with fail
    refine (add_c w6 w3.heap.size d S L x l M6.out (by omega)).mono ?_; rintro e w7 ⟨rfl, a7, b7, f7⟩
    have M7 := Lib.hid a7
    have L7 : Hid (Below w3.heap.size w3 w7) := L6.out.trans b7
    have X7 := Lib.hid (X6.out.far f7 Y6.out)
    clear a7 b7 f7
    go_wp2_with fail
    refine (posList_c w7 w3.heap.size d _ _ M7.out).mono ?_; rintro e w' ⟨gl, kl, ql, rfl, xl, rfl⟩
    have XL := Lib.hid xl
    clear xl
    have hl1 : (L ++ [l]).length = L.length + 1 := by simp
    rw [hl1]
    have hcap : L.length + 1 ≤ kl := by have := XL.out.2.1; omega
    have hcap2 : (L.length : Int) ≤ (kl : Int) := by omega
    have HLx : Hid (Arg (w7.drewN ql) (some ⟨gl, 0, none⟩) L.length kl (L.map (Value.int .i64))) := Arg.left XL.out.drewN (by rw [List.map_append]; exact List.prefix_append _ _) (by simp)
    have j0 : (0 : Int) ≤ (L.length : Int) := by omega
    have j1 : (L.length : Int) < (L.length : Int) + 1 := by omega
    go_wp2_with fail
    refine (eqInt_c _ _ _ _ _ L _ (by omega) HLx.out X7.out.drewN).mono ?_; rintro e w' ⟨rfl, q, rfl⟩
    go_wp2_with fail
    refine (list_c _ w3.heap.size d _ _ M7.out.drewN).mono ?_; rintro e w' ⟨gc, kc, qc, rfl, xc, rfl⟩
    have cL : w7.cell? ⟨gl, L.length, none⟩ = some (.int .i64 l) := by
      obtain ⟨b, o, e, hb, hc⟩ := XL.out.2.2.2.2 (by simp)
      obtain ⟨rfl, rfl⟩ : gl = b ∧ 0 = o := by simpa using e
      have := hc L.length (.int .i64 l) (by simp)
      simpa using this
    have cS : w7.cell? ⟨gc, L.length, none⟩ = some (.int .u32 x) := by
      obtain ⟨b, o, e, hb, hc⟩ := xc.2.2.2.2 (by simp)
      obtain ⟨rfl, rfl⟩ : gc = b ∧ 0 = o := by simpa using e
      have := hc L.length (.int .u32 x) (by rw [HLL.out]; simp)
      simpa using this
    have hl2 : (S ++ [x]).length = L.length + 1 := by rw [HLL.out]; simp
    rw [hl2]
    clear xc hl2
    go_wp2_with fail
    go_ret
    exact ⟨rfl, below_drewN (LW.out.trans (L7.out.mono LW.out.size)) _⟩
  · have hG' : 65536 < n1 ∨ 65536 < n2 ∨ 65536 < n3 ∨ 1048576 < 4 * n1 + 8 * n2 + n3 := by omega
    clear hG
    go_enter Try.func7, Try.ntmps7
    go_wp2_with (go_at_call 29; go_in)
    all_goals (go_ret; exact ⟨rfl, Below.refl _ _⟩)

end Go.Proofs.Ytmcpjhkkdjhboaa
