/-
  The walks through the laws on a code store under a script of Adds and Pops.
-/
import Derived.Test.YtmcpjhkkdjhboaaKeep
namespace Go.Proofs.Ytmcpjhkkdjhboaa
open Go.RowKit
set_option linter.unusedVariables false

set_option maxRecDepth 100000 in
set_option maxHeartbeats 600000 in
theorem law_last (A1 : Option Addr) (n1 c1 : Nat) (is : List Int) (A2 : Option Addr) (n2 c2 : Nat) (ls : List Int) (A3 : Option Addr) (n3 c3 : Nat) (ps : List Bool) (w : World)
    (g1 : Arg w A1 n1 c1 (is.map (Value.int .u32))) (r1 : ∀ x ∈ is, 0 ≤ x ∧ x ≤ 4294967295) (g2 : Arg w A2 n2 c2 (ls.map (Value.int .i64))) (r2 : ∀ x ∈ ls, -9223372036854775808 ≤ x ∧ x ≤ 9223372036854775807) (g3 : Arg w A3 n3 c3 (ps.map Value.bool)) :
    Calls Try.prog 10 #[.slice A1 n1 c1, .slice A2 n2 c2, .slice A3 n3 c3] w fun e w' => e = .returned (.bool true) ∧ Below w.heap.size w w' := by
  have m1 : n1 ≤ 9223372036854775807 := by have h1 := g1.2.1; have h2 := g1.2.2.1; unfold maxLen at h2; omega
  have m2 : n2 ≤ 9223372036854775807 := by have h1 := g2.2.1; have h2 := g2.2.2.1; unfold maxLen at h2; omega
  have m3 : n3 ≤ 9223372036854775807 := by have h1 := g3.2.1; have h2 := g3.2.2.1; unfold maxLen at h2; omega
  have G1 := Lib.hid g1
  have G2 := Lib.hid g2
  have G3 := Lib.hid g3
  have R1 := Lib.hid r1
  have R2 := Lib.hid r2
  clear g1 g2 g3 r1 r2
  by_cases hG : n1 ≤ 65536 ∧ n2 ≤ 65536 ∧ n3 ≤ 65536 ∧ 4 * n1 + 8 * n2 + n3 ≤ 1048576
  · obtain ⟨s1, s2, s3, s4⟩ := hG
    go_enter Try.func10, Try.ntmps10
    go_wp2_with (go_at_call 34; go_in)
    refine (copy_u32 A1 n1 c1 is _ G1.out (by omega)).mono ?_; rintro e w1 ⟨A1', k1, rfl, a1, b1, -⟩
    have M1 := Lib.hid a1
    have L1 := Lib.hid b1
    clear a1 b1
    go_wp2_with fail
    refine (copy_int A2 n2 c2 ls _ (G2.out.below L1.out) (by omega)).mono ?_; rintro e w2 ⟨A2', k2, rfl, a2, b2, -⟩
    have M2 := Lib.hid a2
    have L2 := Lib.hid b2
    clear a2 b2
    go_wp2_with fail
    refine (copy_bool A3 n3 c3 ps _ ((G3.out.below L1.out).below L2.out) (by omega)).mono ?_; rintro e w3 ⟨A3', k3, rfl, a3, b3, -⟩
    have M3 := Lib.hid a3
    have L3 := Lib.hid b3
    clear a3 b3
    go_wp2_with fail
    refine (zzN_c A1' A2' A3' n1 k1 n2 k2 n3 k3 s1 s2 s3 _).mono ?_; rintro e w' ⟨n, rfl, ⟨q1, q2, q3⟩, rfl⟩
    go_wp2_with fail
    refine (new_c _).mono ?_; rintro e w4 ⟨d, rfl, a4, b4⟩
    have hSc : Hid (Scr w3 A1' A2' A3' n1 k1 n2 k2 n3 k3 n is ls ps) := ⟨(M1.out.below L2.out).below L3.out, M2.out.below L3.out, M3.out, q1, q2, q3⟩
    have M4 := Lib.hid a4
    have L4 := Lib.hid b4
    have LW : Hid (Below w.heap.size w w3) := (L1.out.trans (L2.out.mono L1.out.size)).trans (L3.out.mono (Nat.le_trans L1.out.size L2.out.size))
    clear a4 b4
    have hmk : ∀ W : World, (Instr.makeSlice 22 (.int .i64 0) (.int .i64 (n : Int))).run Try.prog W = .ok (.slice (some ⟨W.heap.size, 0, none⟩) 0 n) (W.alloc (.cells (madeCells #[.int .u32 0] n) 41)) :=
      fun W => run_make_cap 22 41 (.int .u32 0) 4 Try.underlying22 info41 rfl n (by omega) (by omega) W
    obtain ⟨i1', hi1, hz1, hs1, hb1⟩ := info_parts info41
    go_wp2_with fail
    clear hmk
    have bA : Below w4.heap.size w4 (w4.alloc (.cells (madeCells #[.int .u32 0] n) 41)) := (Below.refl _ _).alloc (Nat.le_refl _) _
    have M5 := Lib.hid (M4.out.below bA)
    have L5 : Hid (Below w3.heap.size w3 (w4.alloc (.cells (madeCells #[.int .u32 0] n) 41))) := L4.out.trans (bA.mono L4.out.size)
    have R5 := Lib.hid (own_made (base := w3.heap.size) w4 41 (.int .u32 0) n rfl L4.out.size (by unfold maxLen; omega))
    have G5 : Hid (¬ Fp (w4.alloc (.cells (madeCells #[.int .u32 0] n) 41)) d w4.heap.size) := fun hf => by have := M4.out.fp_lt (M4.out.fp_below bA hf); omega
    clear bA
    generalize w4.alloc (.cells (madeCells #[.int .u32 0] n) 41) = w5 at *
    refine (last_empty_c _ w3.heap.size d _ M5.out).mono ?_; rintro e w' ⟨rfl, qa, rfl⟩
    go_wp2_with fail
    refine (lastPC_c _ w3.heap.size d _ _ M5.out.drewN).mono ?_; rintro e w' ⟨rfl, rfl⟩
    rw [show ((([] : List Int).length : Nat) : Int) - 1 = -1 by rfl]
    have HT : Hid (Store (w5.drewN qa) w3.heap.size d [] []) := M5.out
    have LT : Hid (Below w3.heap.size w3 (w5.drewN qa)) := below_drewN L5.out _
    generalize hg0 : w4.heap.size = g0 at *
    clear hg0
    go_wp2_with fail
    go_loopw [9, 10] (fun st i wr => ∃ k D g cap : Nat, k ≤ n ∧ i = .int .i64 k ∧ st = .slice (some ⟨g, 0, none⟩) D cap ∧ (stk is ps k).length = D ∧ D ≤ k ∧ Hid (Store wr w3.heap.size d (stk is ps k) (stk ls ps k)) ∧
      Hid (wr.ownsRow w3.heap.size 41 1 (.slice (some ⟨g, 0, none⟩) D cap) D ((stk is ps k).map (Value.int .u32))) ∧ Hid (¬ Fp wr d g) ∧ Below w3.heap.size w3 wr) (fun _ i _ => n - (intOf i).toNat)
    case atStart => exact ⟨0, 0, g0, n, Nat.zero_le _, rfl, rfl, rfl, Nat.le_refl _, HT.out, R5.out, G5.out, LT.out⟩
    case round =>
      obtain ⟨k, D, g, cap, hk, rfl, rfl, hlen, hDk, hSt, hRow, hOut, hbel⟩ := hrel
      have HLEN := Lib.hid hlen
      have HBEL := Lib.hid hbel
      clear hlen hbel
      obtain ⟨kc1, kc2⟩ := cap_of_own hRow.out
      by_cases hlt : k < n
      · obtain ⟨b1, o1, u1, e1, x1, cell1, lt1⟩ := hSc.out.a1.at_ HBEL.out (k := k) (by omega)
        obtain ⟨b2, o2, u2, e2, x2, cell2, lt2⟩ := hSc.out.a2.at_ HBEL.out (k := k) (by omega)
        obtain ⟨b3, o3, u3, e3, x3, cell3, lt3⟩ := hSc.out.a3.at_ HBEL.out (k := k) (by omega)
        subst e1 e2 e3
        obtain ⟨x, X1, rfl⟩ := map_get x1
        obtain ⟨l, X2, rfl⟩ := map_get x2
        obtain ⟨q, X3, rfl⟩ := map_get x3
        have i0 : (0 : Int) ≤ (k : Int) := by omega
        have i1 : (k : Int) < (n1 : Int) := by omega
        have i2 : (k : Int) < (n2 : Int) := by omega
        have i3 : (k : Int) < (n3 : Int) := by omega
        have SL := Lib.hid (stk_len is ls ps k)
        have hsz : (stk is ps k).length < 65536 := by rw [HLEN.out]; omega
        have Y1 := Lib.hid X1
        have Y2 := Lib.hid X2
        have Y3 := Lib.hid X3
        clear x1 x2 x3 X1 X2 X3
        cases q
        · have E1 := stk_push (xs := is) Y3.out Y1.out (by simp)
          have E2 := stk_push (xs := ls) Y3.out Y2.out (by simp)
          have T : Hid (stk is ps (k + 1) = stk is ps k ++ [x] ∧ stk ls ps (k + 1) = stk ls ps k ++ [l]) := ⟨E1, E2⟩
          clear E1 E2
          go_wp2_with fail
          go_still_tail 9, (by kernel_rfl)
          go_wp2_with fail
          refine (add_c _ w3.heap.size d (stk is ps k) (stk ls ps k) x l hSt.out.drew (by omega)).mono ?_
          rintro e w7 ⟨rfl, hst1, hb1, f7⟩
          rw [← T.out.1, ← T.out.2] at hst1
          have HT7 := Lib.hid hst1
          have HB7 : Hid (Below w3.heap.size w3 w7) := HBEL.out.drew.trans hb1
          have HR7 := Lib.hid (own_far (w := wr.drew) hRow.out f7 hOut.out)
          have HG7 := Lib.hid (stays_out f7 (hRow.out.lt g rfl).2 hOut.out)
          have cell7 : w7.cell? ⟨b1, o1 + k, none⟩ = some (.int .u32 x) := by rw [HB7.out.cell (by exact lt1), ← HBEL.out.cell (by exact lt1)]; exact cell1
          have hw7 : w3.heap.size ≤ w7.heap.size := HB7.out.size
          have hg7 : g < w7.heap.size := (HR7.out.lt g rfl).2
          clear hst1 hb1 f7
          go_wp2_with (at_builtin; go_must (refine wpList_append_lies _ rfl (.tmp 93) (.tmp 98) _ rfl w3.heap.size 41 i1' _ 1 4 Try.underlying22 hi1 hz1 hs1 hb1 rfl (by omega) (.slice (some ⟨g, 0, none⟩) _ cap) _ ((stk is ps k).map (Value.int .u32)) rfl (HR7.out.alloc _) ⟨w7.heap.size, 0, none⟩ 1 1 [.int .u32 x] rfl rfl (World.news_of_block (cs := #[.int .u32 x]) (t := 41) (fr := (0, 0)) (heap_alloc_new w7 _)) (by simp [Value.oneCell']) (by omega) (by unfold maxLen; omega) (by omega) (by simp; omega) (w7.heap.size + 1) (by simp) ?_))
          intro gg cap8 w8 hown8 hgrow8 hat8 hlt8
          have hst8 := Store.grown (HT7.out.below ((Below.refl _ _).alloc (Nat.le_refl _) (.cells #[.int .u32 x] 41))) hgrow8 (fun hf => HG7.out (HT7.out.fp_below ((Below.refl _ _).alloc (Nat.le_refl _) (.cells #[.int .u32 x] 41)) hf))
          have M8 := Lib.hid hst8.1
          have HR8 : Hid (w8.ownsRow w3.heap.size 41 1 (.slice (some ⟨gg, 0, none⟩) (D + 1) cap8) (D + 1) ((stk is ps (k + 1)).map (Value.int .u32))) := by
            have := hown8
            rw [T.out.1, List.map_append]
            exact this
          have HG8 : Hid (¬ Fp w8 d gg) := fun hf => by
            have hf' := HT7.out.fp_below ((Below.refl _ _).alloc (Nat.le_refl _) (.cells #[.int .u32 x] 41)) (hst8.2 _ hf)
            rcases hat8 with h | h
            · have : g = gg := by simpa [Value.ownBlock] using h
              subst this
              exact HG7.out hf'
            · have := HT7.out.fp_lt hf'
              omega
          have HB8 : Hid (Below w3.heap.size w3 w8) := (HB7.out.alloc hw7 _).grown hgrow8 (by simp; omega) (fun j hj => by simp [Value.ownBlock] at hj; have := (HR7.out.lt g rfl).1; omega)
          have HN : Hid ((stk is ps (k + 1)).length = D + 1) := by show _ = _; rw [T.out.1, List.length_append, HLEN.out]; rfl
          have hE : D + 1 ≤ k + 1 := by omega
          clear hown8 hgrow8 hat8 hst8 cell7 cell1 cell2 cell3
          go_wp2_with fail
          refine (lastPC_c _ w3.heap.size d _ _ M8.out).mono ?_; rintro e w' ⟨rfl, rfl⟩
          rw [HN.out]
          have hlast : (((D + 1 : Nat) : Int) - 1) = (D : Int) := by omega
          rw [hlast]
          clear hlast
          obtain ⟨z, hz⟩ : ∃ z, (stk is ps (k + 1))[D]? = some z := ⟨(stk is ps (k + 1))[D]'(by rw [HN.out]; omega), List.getElem?_eq_getElem _⟩
          have HZ := Lib.hid hz
          have cz : w8.cell? ⟨gg, D, none⟩ = some (.int .u32 z) := by rw [HR8.out.cellAt D (by omega), List.getElem?_map, hz]; rfl
          clear hz
          have t0 : (0 : Int) ≤ (D : Int) := by omega
          have t1 : (D : Int) < (D : Int) + 1 := by omega
          have t2 : (D : Int) < ((D + 1 : Nat) : Int) := by omega
          have t3 : ((((D + 1 : Nat) : Int)) == 0) = false := by simp <;> omega
          have t4 : ((D : Int) + 1 == 0) = false := by simp <;> omega
          have t5 : IntKind.i64.wrap ((D : Int) + 1 - 1) = (D : Int) := by rw [Int.add_sub_cancel]; exact IntWalk.i64_in _ (by omega)
          have t6 : IntKind.i64.wrap (((D + 1 : Nat) : Int) - 1) = (D : Int) := by rw [show (((D + 1 : Nat) : Int) - 1) = (D : Int) by omega]; exact IntWalk.i64_in _ (by omega)
          go_wp2_with fail
          go_quiet (first
            | (go_at_call 28; exact quiet_left (at_c _ w3.heap.size d _ _ D z M8.out.drewN HZ.out))
            | (go_at_call 35; exact Calls.quiet_of (last_c _ w3.heap.size d _ _ D z M8.out.drewN HN.out HZ.out)))
          clear t3 t4 t5 t6
          go_wp2_with fail
          go_roundw
          case rel => exact ⟨k + 1, D + 1, gg, cap8, by omega, by go_num, rfl, HN.out, hE, M8.out.drewN, HR8.out, HG8.out, below_drewN HB8.out _⟩
          case measure => simp [intOf]; omega
        · rcases hD0 : D with _ | D'
          · have E1 := stk_push (xs := is) Y3.out Y1.out (by rw [HLEN.out, hD0]; simp)
            have E2 := stk_push (xs := ls) Y3.out Y2.out (by rw [← SL.out, HLEN.out, hD0]; simp)
            subst hD0
            have T : Hid (stk is ps (k + 1) = stk is ps k ++ [x] ∧ stk ls ps (k + 1) = stk ls ps k ++ [l]) := ⟨E1, E2⟩
            clear E1 E2
            go_wp2_with fail
            go_still_tail 9, (by kernel_rfl)
            go_wp2_with fail
            refine (add_c _ w3.heap.size d (stk is ps k) (stk ls ps k) x l hSt.out.drew (by omega)).mono ?_
            rintro e w7 ⟨rfl, hst1, hb1, f7⟩
            rw [← T.out.1, ← T.out.2] at hst1
            have HT7 := Lib.hid hst1
            have HB7 : Hid (Below w3.heap.size w3 w7) := HBEL.out.drew.trans hb1
            have HR7 := Lib.hid (own_far (w := wr.drew) hRow.out f7 hOut.out)
            have HG7 := Lib.hid (stays_out f7 (hRow.out.lt g rfl).2 hOut.out)
            have cell7 : w7.cell? ⟨b1, o1 + k, none⟩ = some (.int .u32 x) := by rw [HB7.out.cell (by exact lt1), ← HBEL.out.cell (by exact lt1)]; exact cell1
            have hw7 : w3.heap.size ≤ w7.heap.size := HB7.out.size
            have hg7 : g < w7.heap.size := (HR7.out.lt g rfl).2
            clear hst1 hb1 f7
            go_wp2_with (at_builtin; go_must (refine wpList_append_lies _ rfl (.tmp 93) (.tmp 98) _ rfl w3.heap.size 41 i1' _ 1 4 Try.underlying22 hi1 hz1 hs1 hb1 rfl (by omega) (.slice (some ⟨g, 0, none⟩) _ cap) _ ((stk is ps k).map (Value.int .u32)) rfl (HR7.out.alloc _) ⟨w7.heap.size, 0, none⟩ 1 1 [.int .u32 x] rfl rfl (World.news_of_block (cs := #[.int .u32 x]) (t := 41) (fr := (0, 0)) (heap_alloc_new w7 _)) (by simp [Value.oneCell']) (by omega) (by unfold maxLen; omega) (by omega) (by simp; omega) (w7.heap.size + 1) (by simp) ?_))
            intro gg cap8 w8 hown8 hgrow8 hat8 hlt8
            have hst8 := Store.grown (HT7.out.below ((Below.refl _ _).alloc (Nat.le_refl _) (.cells #[.int .u32 x] 41))) hgrow8 (fun hf => HG7.out (HT7.out.fp_below ((Below.refl _ _).alloc (Nat.le_refl _) (.cells #[.int .u32 x] 41)) hf))
            have M8 := Lib.hid hst8.1
            have HR8 : Hid (w8.ownsRow w3.heap.size 41 1 (.slice (some ⟨gg, 0, none⟩) (0 + 1) cap8) (0 + 1) ((stk is ps (k + 1)).map (Value.int .u32))) := by
              have := hown8
              rw [T.out.1, List.map_append]
              exact this
            have HG8 : Hid (¬ Fp w8 d gg) := fun hf => by
              have hf' := HT7.out.fp_below ((Below.refl _ _).alloc (Nat.le_refl _) (.cells #[.int .u32 x] 41)) (hst8.2 _ hf)
              rcases hat8 with h | h
              · have : g = gg := by simpa [Value.ownBlock] using h
                subst this
                exact HG7.out hf'
              · have := HT7.out.fp_lt hf'
                omega
            have HB8 : Hid (Below w3.heap.size w3 w8) := (HB7.out.alloc hw7 _).grown hgrow8 (by simp; omega) (fun j hj => by simp [Value.ownBlock] at hj; have := (HR7.out.lt g rfl).1; omega)
            have HN : Hid ((stk is ps (k + 1)).length = 0 + 1) := by show _ = _; rw [T.out.1, List.length_append, HLEN.out]; rfl
            have hE : 0 + 1 ≤ k + 1 := by omega
            clear hown8 hgrow8 hat8 hst8 cell7 cell1 cell2 cell3
            go_wp2_with fail
            refine (lastPC_c _ w3.heap.size d _ _ M8.out).mono ?_; rintro e w' ⟨rfl, rfl⟩
            rw [HN.out]
            have hlast : (((0 + 1 : Nat) : Int) - 1) = ((0 : Nat) : Int) := by omega
            rw [hlast]
            clear hlast
            obtain ⟨z, hz⟩ : ∃ z, (stk is ps (k + 1))[0]? = some z := ⟨(stk is ps (k + 1))[0]'(by rw [HN.out]; omega), List.getElem?_eq_getElem _⟩
            have HZ := Lib.hid hz
            have cz : w8.cell? ⟨gg, 0, none⟩ = some (.int .u32 z) := by rw [HR8.out.cellAt 0 (by omega), List.getElem?_map, hz]; rfl
            clear hz
            have t0 : (0 : Int) ≤ ((0 : Nat) : Int) := by omega
            have t1 : ((0 : Nat) : Int) < ((0 : Nat) : Int) + 1 := by omega
            have t2 : ((0 : Nat) : Int) < ((0 + 1 : Nat) : Int) := by omega
            have t3 : ((((0 + 1 : Nat) : Int)) == 0) = false := by simp <;> omega
            have t4 : (((0 : Nat) : Int) + 1 == 0) = false := by simp <;> omega
            have t5 : IntKind.i64.wrap (((0 : Nat) : Int) + 1 - 1) = ((0 : Nat) : Int) := by rw [Int.add_sub_cancel]; exact IntWalk.i64_in _ (by omega)
            have t6 : IntKind.i64.wrap (((0 + 1 : Nat) : Int) - 1) = ((0 : Nat) : Int) := by rw [show (((0 + 1 : Nat) : Int) - 1) = ((0 : Nat) : Int) by omega]; exact IntWalk.i64_in _ (by omega)
            go_wp2_with fail
            go_quiet (first
              | (go_at_call 28; exact quiet_left (at_c _ w3.heap.size d _ _ 0 z M8.out.drewN HZ.out))
              | (go_at_call 35; exact Calls.quiet_of (last_c _ w3.heap.size d _ _ 0 z M8.out.drewN HN.out HZ.out)))
            clear t3 t4 t5 t6
            go_wp2_with fail
            go_roundw
            case rel => exact ⟨k + 1, 0 + 1, gg, cap8, by omega, by go_num, rfl, HN.out, hE, M8.out.drewN, HR8.out, HG8.out, below_drewN HB8.out _⟩
            case measure => simp [intOf]; omega
          · subst hD0
            have hpos : (0 : Int) < (((D' + 1 : Nat)) : Int) := by omega
            have hpos' : (0 : Int) < (D' : Int) + 1 := by omega
            have E1 := stk_pop (xs := is) Y3.out (by rw [HLEN.out]; omega)
            have E2 := stk_pop (xs := ls) Y3.out (by rw [← SL.out, HLEN.out]; omega)
            have T : Hid (stk is ps (k + 1) = (stk is ps k).dropLast ∧ stk ls ps (k + 1) = (stk ls ps k).dropLast) := ⟨E1, E2⟩
            clear E1 E2
            go_wp2_with fail
            refine (pop_c _ w3.heap.size d (stk is ps k) (stk ls ps k) hSt.out (by rw [HLEN.out]; omega)).mono ?_
            rintro e w8 ⟨rfl, hst1, hb1, f7⟩
            rw [← T.out.1, ← T.out.2] at hst1
            have M8 := Lib.hid hst1
            have HB8 : Hid (Below w3.heap.size w3 w8) := HBEL.out.trans hb1
            have hr8 := own_dropLast (own_far hRow.out f7 hOut.out) (by omega)
            rw [← T.out.1, Nat.add_sub_cancel] at hr8
            have HR8 := Lib.hid hr8
            have HG8 := Lib.hid (stays_out f7 (hRow.out.lt g rfl).2 hOut.out)
            have HN : Hid ((stk is ps (k + 1)).length = D') := by show _ = _; rw [T.out.1, List.length_dropLast, HLEN.out]; rfl
            clear hst1 hb1 f7 hr8
            have u0 : (0 : Int) ≤ (D' : Int) := by omega
            have u1 : (D' : Int) ≤ (cap : Int) := by omega
            go_wp2_with fail
            rcases hD1 : D' with _ | E
            · subst hD1
              have HN0 : Hid (stk is ps (k + 1) = []) := List.eq_nil_of_length_eq_zero HN.out
              have hm8 := M8.out
              rw [HN0.out] at hm8
              have M80 := Lib.hid hm8
              clear hm8
              refine (lastPC_c _ w3.heap.size d _ _ M8.out).mono ?_; rintro e w' ⟨rfl, rfl⟩
              rw [HN.out]
              go_wp2_with fail
              refine (last_empty_c _ w3.heap.size d _ M80.out).mono ?_; rintro e w' ⟨rfl, qa, rfl⟩
              go_wp2_with fail
              go_roundw
              case rel => exact ⟨k + 1, 0, g, cap, by omega, by go_num, rfl, HN.out, by omega, M8.out.drewN, HR8.out, HG8.out, below_drewN HB8.out _⟩
              case measure => simp [intOf]; omega
            · subst hD1
              have hE : E + 1 ≤ k + 1 := by omega
              refine (lastPC_c _ w3.heap.size d _ _ M8.out).mono ?_; rintro e w' ⟨rfl, rfl⟩
              rw [HN.out]
              have hlast : (((E + 1 : Nat) : Int) - 1) = (E : Int) := by omega
              rw [hlast]
              clear hlast
              obtain ⟨z, hz⟩ : ∃ z, (stk is ps (k + 1))[E]? = some z := ⟨(stk is ps (k + 1))[E]'(by rw [HN.out]; omega), List.getElem?_eq_getElem _⟩
              have HZ := Lib.hid hz
              have cz : w8.cell? ⟨g, E, none⟩ = some (.int .u32 z) := by rw [HR8.out.cellAt E (by omega), List.getElem?_map, hz]; rfl
              clear hz
              have t0 : (0 : Int) ≤ (E : Int) := by omega
              have t1 : (E : Int) < (E : Int) + 1 := by omega
              have t2 : (E : Int) < ((E + 1 : Nat) : Int) := by omega
              have t3 : ((((E + 1 : Nat) : Int)) == 0) = false := by simp <;> omega
              have t4 : ((E : Int) + 1 == 0) = false := by simp <;> omega
              have t5 : IntKind.i64.wrap ((E : Int) + 1 - 1) = (E : Int) := by rw [Int.add_sub_cancel]; exact IntWalk.i64_in _ (by omega)
              have t6 : IntKind.i64.wrap (((E + 1 : Nat) : Int) - 1) = (E : Int) := by rw [show (((E + 1 : Nat) : Int) - 1) = (E : Int) by omega]; exact IntWalk.i64_in _ (by omega)
              go_wp2_with fail
              go_quiet (first
                | (go_at_call 28; exact quiet_left (at_c _ w3.heap.size d _ _ E z M8.out.drewN HZ.out))
                | (go_at_call 35; exact Calls.quiet_of (last_c _ w3.heap.size d _ _ E z M8.out.drewN HN.out HZ.out)))
              clear t3 t4 t5 t6
              go_wp2_with fail
              go_roundw
              case rel => exact ⟨k + 1, E + 1, g, cap, by omega, by go_num, rfl, HN.out, hE, M8.out.drewN, HR8.out, HG8.out, below_drewN HB8.out _⟩
              case measure => simp [intOf]; omega
      · obtain rfl : k = n := by omega
        go_wp2_with fail
        go_ret
        exact ⟨rfl, LW.out.trans (HBEL.out.mono LW.out.size)⟩
  · have hG' : 65536 < n1 ∨ 65536 < n2 ∨ 65536 < n3 ∨ 1048576 < 4 * n1 + 8 * n2 + n3 := by omega
    clear hG
    go_enter Try.func10, Try.ntmps10
    go_wp2_with (go_at_call 34; go_in)
    all_goals (go_ret; exact ⟨rfl, Below.refl _ _⟩)

end Go.Proofs.Ytmcpjhkkdjhboaa
