/-
  The law: two registries driven by the same script, one through Set and one through SetNumber, agree.
-/
import Derived.Test.YtddmpdiidnamkaaScr
import Derived.Test.YtddmpdiidnamkaaCom
namespace Go.Proofs.Ytddmpdiidnamkaa
open Go.RowKit
set_option linter.unusedVariables false

theorem full_both (w : World) (f g C top gb mx : Nat) (al : Value) (sl : Nat → Value) (h : Rg w f g C top gb mx al sl) : Calls Try.prog 11 #[.pointer (some ⟨f, 0, none⟩)] w fun e w' => e = .returned (.bool (decide (C ≤ top))) ∧ ∃ q, w.drewN q = w' := full_c w f g C top gb mx al sl h
/-- A slot of the one beside the same slot of the other. -/
theorem two_slots (o : Option Nat) : ∃ k x y, (k = 0 ∨ k = 1) ∧ SlotIs (match o with | none => .nilIface | some x => .iface 59 (.float .f64 x)) k x ∧ SlotIs (match o with | none => .nilIface | some x => .iface 59 (.float .f64 (num0 x))) k y ∧ SameN x y := by
  cases o with
  | none => exact ⟨0, 0, 0, .inl rfl, .inl ⟨rfl, rfl, rfl⟩, .inl ⟨rfl, rfl, rfl⟩, SameN.refl 0⟩
  | some x =>
    refine ⟨1, x, num0 x, .inr rfl, .inr ⟨rfl, rfl⟩, .inr ⟨rfl, rfl⟩, ?_⟩
    unfold num0
    obtain h | h : feq x 0 = true ∨ feq x 0 = false := by cases feq x 0 <;> simp
    · rw [h, if_pos rfl]
      exact .inl h
    · rw [h, if_neg (by simp)]
      exact SameN.refl x

set_option maxHeartbeats 4000000 in
set_option maxRecDepth 100000 in
theorem law_agrees (n0 g0 m0 : Int) (A1 : Option Addr) (n1 c1 : Nat) (zs : List Int) (A2 : Option Addr) (n2 c2 : Nat) (fs : List Nat) (w : World) (r1 : -9223372036854775808 ≤ n0 ∧ n0 ≤ 9223372036854775807) (r2 : -9223372036854775808 ≤ g0 ∧ g0 ≤ 9223372036854775807) (r3 : -9223372036854775808 ≤ m0 ∧ m0 ≤ 9223372036854775807)
    (a1 : Arg w A1 n1 c1 (zs.map (Value.int .i64))) (q1 : ∀ x ∈ zs, -9223372036854775808 ≤ x ∧ x ≤ 9223372036854775807) (a2 : Arg w A2 n2 c2 (fs.map (Value.float .f64))) (q2 : ∀ x ∈ fs, (Lit.float .f64 x).wf = true) :
    Calls Try.prog 7 #[.int .i64 n0, .int .i64 g0, .int .i64 m0, .slice A1 n1 c1, .slice A2 n2 c2] w fun e w' => e = .returned (.bool true) ∧ Below w.heap.size w w' := by
  have m1 : n1 ≤ 9223372036854775807 := by have h1 := a1.2.1; have h2 := a1.2.2.1; unfold maxLen at h2; omega
  have m2 : n2 ≤ 9223372036854775807 := by have h1 := a2.2.1; have h2 := a2.2.2.1; unfold maxLen at h2; omega
  have A1' := Lib.hid a1
  have A2' := Lib.hid a2
  clear a1 a2 q1 q2 r1 r2 r3
  by_cases s1 : n1 ≤ 4096
  · by_cases s2 : n2 ≤ 4096
    · by_cases hP : PB n0 g0 m0
      · have P := Lib.hid hP
        obtain ⟨h1, h2, h3, h4, h5, h6⟩ := hP
        obtain ⟨n, rfl⟩ := Int.eq_ofNat_of_zero_le h1
        obtain ⟨gb, rfl⟩ := Int.eq_ofNat_of_zero_le h3
        obtain ⟨mx, rfl⟩ := Int.eq_ofNat_of_zero_le (show 0 ≤ m0 by omega)
        have hn : n ≤ mx := by omega
        have hm : mx ≤ 65536 := by omega
        have hg : gb ≤ 65536 := by omega
        clear h1 h2 h3 h4 h5 h6
        go_enter Try.func7, Try.ntmps7
        go_wp2_with fail
        refine (bytes33_c _ _ _ A1 A2 n1 c1 n2 c2 w m1 m2).mono ?_; rintro e w' ⟨b, rfl, rfl⟩
        cases b
        · go_wp2_with fail
          go_ret
          exact ⟨rfl, Below.refl _ _⟩
        go_wp2_with fail
        refine (params22_yes _ _ _ w P.out).mono ?_; rintro e w' ⟨rfl, rfl⟩
        go_wp2_with fail
        refine (script23_c (mx : Int) A1 n1 c1 zs w A1'.out (by omega)).mono ?_; rintro e w' ⟨b, rfl, rfl, hbs⟩
        cases b
        · go_wp2_with fail
          go_ret
          exact ⟨rfl, Below.refl _ _⟩
        have BS := Lib.hid (hbs rfl)
        clear hbs
        go_wp2_with fail
        refine (copy_iN A1 n1 c1 zs w A1'.out (by omega)).mono ?_; rintro e w1 ⟨A3, c3, rfl, a3, b1⟩
        have A3' := Lib.hid a3
        have B1 := Lib.hid b1
        have A2'' := Lib.hid (A2'.out.below b1)
        clear a3 b1
        go_wp2_with fail
        refine (copy_fN A2 n2 c2 fs w1 A2''.out (by omega)).mono ?_; rintro e w2 ⟨A4, c4, rfl, a4, b2⟩
        have A4' := Lib.hid a4
        have A3'' := Lib.hid (A3'.out.below b2)
        have B2 := Lib.hid (B1.out.trans (b2.mono B1.out.size))
        clear a4 b2
        go_wp2_with fail
        refine (pairs26_c A3 A4 n1 c3 n2 c4 w2 m1 m2).mono ?_; rintro e w3 ⟨rfl, rfl⟩
        have hmin : min n1 n2 ≤ n1 ∧ min n1 n2 ≤ n2 := ⟨Nat.min_le_left _ _, Nat.min_le_right _ _⟩
        have LL : Hid ((prsOf zs fs).length = min n1 n2) := Lib.hid (by
          rw [prs_len]
          have h1 := A1'.out.1
          have h2 := A2'.out.1
          rw [List.length_map] at h1 h2
          rw [h1, h2])
        have PR := Lib.hid (prs_at (fs := fs) BS.out)
        generalize prsOf zs fs = L at *
        generalize min n1 n2 = k0 at *
        obtain ⟨hk1, hk2⟩ := hmin
        obtain ⟨w3, rfl⟩ : ∃ w3, w3 = w2 := ⟨_, rfl⟩
        go_wp2_with fail
        refine (znew_c w3 n gb mx hn hm hg).mono ?_; rintro e w4 ⟨f, g, rfl, hr, b4, hf, hgg⟩
        have R4 := Lib.hid hr
        have B4 : Hid (Below w3.heap.size w3 w4) := b4
        have l4f := hr.head.lt
        have l4g := hr.row.lt
        clear hr b4
        go_wp2_with fail
        refine (znewA_c w4 n gb mx hn hm hg).mono ?_; rintro e w5 ⟨a0, f2, g2, rfl, hr, b5, hf2, hgg2⟩
        have R := Lib.hid (R4.out.below b5)
        have S := Lib.hid hr
        have hs4 := B4.out.size
        have B5 : Hid (Below w3.heap.size w3 w5) := B4.out.trans (b5.mono hs4)
        have NE : Hid (f ≠ f2 ∧ f ≠ g2 ∧ g ≠ f2 ∧ g ≠ g2) := Lib.hid ⟨by omega, by omega, by omega, by omega⟩
        have hf2' : w3.heap.size ≤ f2 := by omega
        have hg2' : w3.heap.size ≤ g2 := by omega
        clear hr b5 hf2 hgg2 R4 B4 l4f l4g hs4
        go_wp2_with fail
        go_loopw [14] (fun i wr => ∃ (k g1 C g3 : Nat), k ≤ k0 ∧ i = .int .i64 k ∧ Hid (Rg wr f g1 C (topw (L.take k)) gb mx (.pointer none) (slOf (lw (turned (fun x => x) (L.take k))))) ∧ Hid (Rg wr f2 g3 C (topw (L.take k)) gb mx (.pointer (some a0)) (slOf (lw (turned num0 (L.take k))))) ∧ w3.heap.size ≤ g1 ∧ w3.heap.size ≤ g3 ∧ Hid (f ≠ f2 ∧ f ≠ g3 ∧ g1 ≠ f2 ∧ g1 ≠ g3) ∧ Hid (Below w3.heap.size w3 wr)) (fun i _ => k0 - (intOf i).toNat)
        case atStart => exact ⟨0, g, n, g2, Nat.zero_le _, rfl, R.out, S.out, hgg, hg2', NE.out, B5.out⟩
        case round =>
          obtain ⟨k, g1, C, g3, hk, rfl, hR, hS, hg1, hg3, hNE, hB⟩ := hrel
          by_cases hlt : k < k0
          · obtain ⟨⟨i, x⟩, hx⟩ : ∃ p, L[k]? = some p := ⟨L[k]'(by rw [LL.out]; exact hlt), List.getElem?_eq_getElem _⟩
            obtain ⟨ha, hb, hi⟩ := PR.out k _ hx
            simp only at ha hb hi
            have HA := Lib.hid ha
            have HBB := Lib.hid hb
            obtain ⟨b1, o1, rfl, hb1, hc1⟩ := (A3''.out.below hB.out).2.2.2.2 (by omega)
            obtain ⟨b2, o2, rfl, hb2, hc2⟩ := (A4'.out.below hB.out).2.2.2.2 (by omega)
            have ck1 : wr.cell? ⟨b1, o1 + k, none⟩ = some (.int .i64 (i : Int)) := hc1 k _ (by rw [List.getElem?_map, ha]; rfl)
            have ck2 : wr.cell? ⟨b2, o2 + k, none⟩ = some (.float .f64 x) := hc2 k _ (by rw [List.getElem?_map, hb]; rfl)
            have et : ∀ t, turned t (L.take (k + 1)) = turned t (L.take k) ++ [(i, t x)] := by intro t; rw [take_snoc_some hx]; unfold turned; rw [List.map_append]; rfl
            have HE : Hid (topw (L.take (k + 1)) = max (topw (L.take k)) (i + 1) ∧ ∀ t, slOf (lw (turned t (L.take (k + 1)))) = upd (slOf (lw (turned t (L.take k)))) i (.iface 59 (.float .f64 (t x)))) := Lib.hid ⟨by rw [take_snoc_some hx, topw_snoc], fun t => by rw [et, lw_snoc, slOf_upd]⟩
            have i0 : (0 : Int) ≤ (k : Int) := by omega
            have i1 : (k : Int) < (n1 : Int) := by omega
            have i2 : (k : Int) < (n2 : Int) := by omega
            have i5 : (k : Int) < (k0 : Int) := by omega
            clear ha hb hc1 hc2 hx et
            go_wp2_with fail
            go_still_tail 9, (by kernel_rfl)
            go_wp2_with fail
            refine (zset_c wr.drew w3.heap.size f g1 C _ gb mx _ _ i x (hR.out.drewN 1) hi ⟨hf, hg1⟩ hB.out.size).mono ?_; rintro e w5 ⟨rfl, g5, hr5, ht5, hb5, hg5⟩
            have R5 := Lib.hid hr5
            have B5 := Lib.hid (hB.out.drew.trans hb5)
            have lf2 := hS.out.head.lt
            have lg3 := hS.out.row.lt
            have S5 := Lib.hid ((hS.out.drewN 1).far ht5 ⟨Ne.symm hNE.out.1, Ne.symm hNE.out.2.2.1, Ne.symm hNE.out.2.1, Ne.symm hNE.out.2.2.2⟩)
            have hw := hB.out.size
            have hw2 : w3.heap.size ≤ g5 := by
              rcases hg5 with rfl | h
              · exact hg1
              · exact Nat.le_trans hw h
            have NE5 : Hid (f ≠ f2 ∧ f ≠ g3 ∧ g5 ≠ f2 ∧ g5 ≠ g3) := by
              rcases hg5 with rfl | h
              · exact hNE
              · have h' : wr.heap.size ≤ g5 := h
                exact Lib.hid ⟨hNE.out.1, hNE.out.2.1, by omega, by omega⟩
            obtain ⟨b1', o1', e1', hb1', hc1'⟩ := (A3''.out.below B5.out).2.2.2.2 (by omega)
            obtain ⟨b2', o2', e2', hb2', hc2'⟩ := (A4'.out.below B5.out).2.2.2.2 (by omega)
            injection e1' with e1'
            injection e1' with e1a e1b
            injection e2' with e2'
            injection e2' with e2a e2b
            subst e1a e1b e2a e2b
            have ck1' : w5.cell? ⟨b1, o1 + k, none⟩ = some (.int .i64 (i : Int)) := hc1' k _ (by rw [List.getElem?_map, HA.out]; rfl)
            have ck2' : w5.cell? ⟨b2, o2 + k, none⟩ = some (.float .f64 x) := hc2' k _ (by rw [List.getElem?_map, HBB.out]; rfl)
            clear hr5 ht5 hb5 hg5 hw hc1' hc2' ck1 ck2 lf2 lg3
            go_wp2_with fail
            go_still_tail 9, (by kernel_rfl)
            go_wp2_with fail
            refine (zsetNumber_c w5.drew w3.heap.size f2 g3 C _ gb mx _ _ i x (S5.out.drewN 1) hi ⟨hf2', hg3⟩ B5.out.size).mono ?_; rintro e w6 ⟨rfl, g6, hr6, ht6, hb6, hg6⟩
            have S6 := Lib.hid hr6
            have B6 := Lib.hid (B5.out.drew.trans hb6)
            have lf := R5.out.head.lt
            have lg5 := R5.out.row.lt
            have R6 := Lib.hid ((R5.out.drewN 1).far ht6 ⟨NE5.out.1, NE5.out.2.1, NE5.out.2.2.1, NE5.out.2.2.2⟩)
            have hw5 := B5.out.size
            have hw6 : w3.heap.size ≤ g6 := by
              rcases hg6 with rfl | h
              · exact hg3
              · exact Nat.le_trans hw5 h
            have NE6 : Hid (f ≠ f2 ∧ f ≠ g6 ∧ g5 ≠ f2 ∧ g5 ≠ g6) := by
              rcases hg6 with rfl | h
              · exact NE5
              · have h' : w5.heap.size ≤ g6 := h
                exact Lib.hid ⟨NE5.out.1, by omega, NE5.out.2.2.1, by omega⟩
            clear hr6 ht6 hb6 hg6 hw5 lf lg5
            rw [← HE.out.1, ← HE.out.2 (fun x => x)] at R6
            rw [← HE.out.1, ← HE.out.2 num0] at S6
            obtain ⟨T, hT⟩ : ∃ T, T = topw (L.take (k + 1)) := ⟨_, rfl⟩
            rw [← hT] at R6 S6
            have HT := Lib.hid hT
            clear hT
            generalize capOf C gb mx (i + 1) = C6 at *
            go_wp2_with fail
            refine (top_c w6 f g5 C6 T gb mx _ _ R6.out).mono ?_; rintro e w' ⟨rfl, rfl⟩
            go_wp2_with fail
            refine (top_c w6 f2 g6 C6 T gb mx _ _ S6.out).mono ?_; rintro e w' ⟨rfl, rfl⟩
            have e1 : ((T : Int) == (T : Int)) = true := by simp
            go_wp2_with fail
            refine (full_c w6 f g5 C6 T gb mx _ _ R6.out).mono ?_; rintro e w' ⟨rfl, q, rfl⟩
            go_wp2_with fail
            refine (full_c _ f2 g6 C6 T gb mx _ _ (S6.out.drewN q)).mono ?_; rintro e w' ⟨rfl, q', rfl⟩
            have R7 := Lib.hid ((R6.out.drewN q).drewN q')
            have S7 := Lib.hid ((S6.out.drewN q).drewN q')
            have B7 := Lib.hid (below_drewN (below_drewN B6.out q) q')
            have hbb : ∀ b : Bool, (b != b) = false := by decide
            generalize (w6.drewN q).drewN q' = w7 at *
            generalize decide (C6 ≤ T) = bb at *
            have e2 : (bb == bb) = true := by simp
            go_wp2_with fail
            go_roundw
            case rel => exact ⟨k + 1, g5, C6, g6, by omega, by go_num, by rw [← HT.out]; exact R7.out, by rw [← HT.out]; exact S7.out, hw2, hw6, NE6.out, B7.out⟩
            case measure => simp [intOf]; omega
          · obtain rfl : k = k0 := by omega
            have hlk : L.take k = L := List.take_of_length_le (by rw [LL.out]; exact Nat.le_refl _)
            rw [hlk] at hR hS
            clear hlk hlt
            have TS := Lib.hid (fun j : Nat => two_slots (lw L j))
            have SR := Lib.hid (fun j : Nat => slOf_turned (fun x => x) L j)
            have SS := Lib.hid (fun j : Nat => slOf_turned num0 L j)
            generalize topw L = T at *
            generalize slOf (lw (turned (fun x => x) L)) = sl at *
            generalize slOf (lw (turned num0 L)) = sm at *
            obtain ⟨l1, _, _, _⟩ := hR.out.le
            have BT := Lib.hid (B2.out.trans (hB.out.mono B2.out.size))
            clear A3'' A4' A3' A2'' A1' A2' R S
            go_wp2_with fail
            go_loopw [15] (fun i wq => ∃ j : Nat, j ≤ T ∧ i = .int .i64 j ∧ wq = wr) (fun i _ => T - (intOf i).toNat)
            case atStart => exact ⟨0, Nat.zero_le _, rfl, rfl⟩
            case round =>
              obtain ⟨j, hj, rfl, rfl⟩ := hrel
              by_cases hlt : j < T
              · obtain ⟨kk, x, y, hk01, hsx, hsy, hsame⟩ := TS.out j
                have HX : Hid (SlotIs (sl j) kk x) := Lib.hid (by rw [SR.out j]; exact hsx)
                have HY : Hid (SlotIs (sm j) kk y) := Lib.hid (by rw [SS.out j]; exact hsy)
                have HS := Lib.hid hsame
                have i5 : (j : Int) < (T : Int) := by omega
                clear hsx hsy hsame
                rcases hk01 with rfl | rfl
                all_goals
                  go_wp2_with fail
                  refine (top_c wr f g1 C T gb mx _ _ hR.out).mono ?_; rintro e w' ⟨rfl, rfl⟩
                  go_wp2_with fail
                  refine (slot_c wr f g1 C T gb mx _ _ j _ x hR.out (by omega) HX.out).mono ?_; rintro e w' ⟨rfl, rfl⟩
                  go_wp2_with fail
                  refine (slot_c wr f2 g3 C T gb mx _ _ j _ y hS.out (by omega) HY.out).mono ?_; rintro e w' ⟨rfl, rfl⟩
                  go_wp2_with fail
                  refine (same34_c x y _ HS.out).mono ?_; rintro e w' ⟨rfl, rfl⟩
                  go_wp2_with fail
                  go_roundw
                  case rel => exact ⟨j + 1, by omega, by go_num, by first | rfl | trivial⟩
                  case measure => simp [intOf]; omega
              · obtain rfl : j = T := by omega
                go_wp2_with fail
                refine (top_c wr f g1 C j gb mx _ _ hR.out).mono ?_; rintro e w' ⟨rfl, rfl⟩
                go_wp2_with fail
                go_ret
                exact ⟨rfl, BT.out⟩
      · have P := Lib.hid hP
        clear hP
        go_enter Try.func7, Try.ntmps7
        go_wp2_with fail
        refine (bytes33_c _ _ _ A1 A2 n1 c1 n2 c2 w m1 m2).mono ?_; rintro e w' ⟨b, rfl, rfl⟩
        cases b
        · go_wp2_with fail
          go_ret
          exact ⟨rfl, Below.refl _ _⟩
        go_wp2_with fail
        refine (params22_no _ _ _ w P.out).mono ?_; rintro e w' ⟨rfl, rfl⟩
        go_wp2_with fail
        go_ret
        exact ⟨rfl, Below.refl _ _⟩
    · have s2' : 4096 < n2 := by omega
      clear s2
      go_enter Try.func7, Try.ntmps7
      go_wp2_with fail
      refine (bytes33_c _ _ _ A1 A2 n1 c1 n2 c2 w m1 m2).mono ?_; rintro e w' ⟨b, rfl, rfl⟩
      cases b
      all_goals
        go_wp2_with fail
        go_ret
        exact ⟨rfl, Below.refl _ _⟩
  · have s1' : 4096 < n1 := by omega
    clear s1
    go_enter Try.func7, Try.ntmps7
    go_wp2_with fail
    refine (bytes33_c _ _ _ A1 A2 n1 c1 n2 c2 w m1 m2).mono ?_; rintro e w' ⟨b, rfl, rfl⟩
    cases b
    all_goals
      go_wp2_with fail
      go_ret
      exact ⟨rfl, Below.refl _ _⟩
end Go.Proofs.Ytddmpdiidnamkaa
