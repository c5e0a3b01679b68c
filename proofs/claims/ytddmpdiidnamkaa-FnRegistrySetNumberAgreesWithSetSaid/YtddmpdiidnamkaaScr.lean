/-
  The laws: a registry driven by a script of writes holds just what the model holds.
-/
import Derived.Test.YtddmpdiidnamkaaLaw1
import Derived.Test.YtddmpdiidnamkaaCopy
namespace Go.Proofs.Ytddmpdiidnamkaa
open Go.RowKit
set_option linter.unusedVariables false

def prsOf (zs : List Int) (fs : List Nat) : List (Nat × Nat) := (zs.map Int.toNat).zip fs
theorem prs_len (zs : List Int) (fs : List Nat) : (prsOf zs fs).length = min zs.length fs.length := by simp [prsOf]
theorem prs_at {zs : List Int} {fs : List Nat} {m : Nat} (h : ∀ z ∈ zs, 0 ≤ z ∧ z < (m : Int)) : Prs zs fs m (prsOf zs fs) := by
  intro k p hp
  unfold prsOf at hp
  rw [List.getElem?_zip_eq_some] at hp
  obtain ⟨h1, h2⟩ := hp
  rw [List.getElem?_map] at h1
  cases hz : zs[k]? with
  | none => rw [hz] at h1; cases h1
  | some z =>
    rw [hz] at h1
    simp only [Option.map_some, Option.some.injEq] at h1
    obtain ⟨a, b⟩ := h z (List.mem_of_getElem? hz)
    refine ⟨?_, h2, ?_⟩
    · congr 1; omega
    · omega
/-- The writes, each value turned by t. -/
def turned (t : Nat → Nat) (L : List (Nat × Nat)) : List (Nat × Nat) := L.map fun p => (p.1, t p.2)
theorem lw_turned (t : Nat → Nat) : ∀ L : List (Nat × Nat), lw (turned t L) = fun j => (lw L j).map t := by
  intro L
  have hh : ∀ k, lw (turned t (L.take k)) = fun j => (lw (L.take k) j).map t := by
    intro k
    induction k with
    | zero => rfl
    | succ k ih =>
      cases hx : L[k]? with
      | none =>
        have hl : L.length ≤ k := by simpa using hx
        rw [List.take_of_length_le (by omega)] at ih ⊢
        exact ih
      | some p =>
        obtain ⟨i, x⟩ := p
        have e : turned t (L.take k ++ [(i, x)]) = turned t (L.take k) ++ [(i, t x)] := by unfold turned; rw [List.map_append]; rfl
        rw [take_snoc_some hx, e, lw_snoc, ih, lw_snoc]
        funext j
        by_cases h : j = i <;> simp [h]
  have := hh L.length
  rwa [List.take_length] at this
theorem same_num0 (x : Nat) : SameN (num0 x) x := by
  unfold num0
  obtain h | h : feq x 0 = true ∨ feq x 0 = false := by cases feq x 0 <;> simp
  · rw [h, if_pos rfl]
    exact .inl (feq_symm h)
  · rw [h, if_neg (by simp)]
    exact SameN.refl x
theorem slOf_turned (t : Nat → Nat) (L : List (Nat × Nat)) (j : Nat) : slOf (lw (turned t L)) j = match lw L j with | none => .nilIface | some x => .iface 59 (.float .f64 (t x)) := by
  rw [lw_turned]
  unfold slOf
  cases h : lw L j <;> simp [h]

set_option maxHeartbeats 2000000 in
set_option maxRecDepth 100000 in
theorem law_set (n0 g0 m0 : Int) (A1 : Option Addr) (n1 c1 : Nat) (zs : List Int) (A2 : Option Addr) (n2 c2 : Nat) (fs : List Nat) (w : World) (r1 : -9223372036854775808 ≤ n0 ∧ n0 ≤ 9223372036854775807) (r2 : -9223372036854775808 ≤ g0 ∧ g0 ≤ 9223372036854775807) (r3 : -9223372036854775808 ≤ m0 ∧ m0 ≤ 9223372036854775807)
    (a1 : Arg w A1 n1 c1 (zs.map (Value.int .i64))) (q1 : ∀ x ∈ zs, -9223372036854775808 ≤ x ∧ x ≤ 9223372036854775807) (a2 : Arg w A2 n2 c2 (fs.map (Value.float .f64))) (q2 : ∀ x ∈ fs, (Lit.float .f64 x).wf = true) :
    Calls Try.prog 4 #[.int .i64 n0, .int .i64 g0, .int .i64 m0, .slice A1 n1 c1, .slice A2 n2 c2] w fun e w' => e = .returned (.bool true) ∧ Below w.heap.size w w' := by
  have m1 : n1 ≤ 9223372036854775807 := by have h1 := a1.2.1; have h2 := a1.2.2.1; unfold maxLen at h2; omega
  have m2 : n2 ≤ 9223372036854775807 := by have h1 := a2.2.1; have h2 := a2.2.2.1; unfold maxLen at h2; omega
  have A1' := Lib.hid a1
  have A2' := Lib.hid a2
  clear a1 a2 q1 q2 r1 r2 r3
  by_cases s1 : n1 ≤ 4096
  · by_cases s2 : n2 ≤ 4096
    · by_cases hP : PB n0 g0 m0
      · have P := Lib.hid hP
        obtain ⟨h1, h2, h3, h4, h5, h6⟩ := hP
        obtain ⟨n, rfl⟩ := Int.eq_ofNat_of_zero_le h1
        obtain ⟨gb, rfl⟩ := Int.eq_ofNat_of_zero_le h3
        obtain ⟨mx, rfl⟩ := Int.eq_ofNat_of_zero_le (show 0 ≤ m0 by omega)
        have hn : n ≤ mx := by omega
        have hm : mx ≤ 65536 := by omega
        have hg : gb ≤ 65536 := by omega
        clear h1 h2 h3 h4 h5 h6
        go_enter Try.func4, Try.ntmps4
        go_wp2_with fail
        refine (bytes14_c _ _ _ A1 A2 n1 c1 n2 c2 w m1 m2).mono ?_; rintro e w' ⟨b, rfl, rfl⟩
        cases b
        · go_wp2_with fail
          go_ret
          exact ⟨rfl, Below.refl _ _⟩
        go_wp2_with fail
        refine (params9_yes _ _ _ w P.out).mono ?_; rintro e w' ⟨rfl, rfl⟩
        go_wp2_with fail
        refine (script15_c (mx : Int) A1 n1 c1 zs w A1'.out (by omega)).mono ?_; rintro e w' ⟨b, rfl, rfl, hbs⟩
        cases b
        · go_wp2_with fail
          go_ret
          exact ⟨rfl, Below.refl _ _⟩
        have BS := Lib.hid (hbs rfl)
        clear hbs
        go_wp2_with fail
        refine (copy_i A1 n1 c1 zs w A1'.out (by omega)).mono ?_; rintro e w1 ⟨A3, c3, rfl, a3, b1⟩
        have A3' := Lib.hid a3
        have B1 := Lib.hid b1
        have A2'' := Lib.hid (A2'.out.below b1)
        clear a3 b1
        go_wp2_with fail
        refine (copy_f A2 n2 c2 fs w1 A2''.out (by omega)).mono ?_; rintro e w2 ⟨A4, c4, rfl, a4, b2⟩
        have A4' := Lib.hid a4
        have A3'' := Lib.hid (A3'.out.below b2)
        have B2 := Lib.hid (B1.out.trans (b2.mono B1.out.size))
        clear a4 b2
        go_wp2_with fail
        refine (pairs18_c A3 A4 n1 c3 n2 c4 w2 m1 m2).mono ?_; rintro e w3 ⟨rfl, rfl⟩
        have hmin : min n1 n2 ≤ n1 ∧ min n1 n2 ≤ n2 := ⟨Nat.min_le_left _ _, Nat.min_le_right _ _⟩
        have LL : Hid ((prsOf zs fs).length = min n1 n2) := Lib.hid (by
          rw [prs_len]
          have h1 := A1'.out.1
          have h2 := A2'.out.1
          rw [List.length_map] at h1 h2
          rw [h1, h2])
        have PR := Lib.hid (prs_at (fs := fs) BS.out)
        generalize prsOf zs fs = L at *
        generalize min n1 n2 = k0 at *
        obtain ⟨hk1, hk2⟩ := hmin
        obtain ⟨w3, rfl⟩ : ∃ w3, w3 = w2 := ⟨_, rfl⟩
        go_wp2_with fail
        refine (znew_c w3 n gb mx hn hm hg).mono ?_; rintro e w4 ⟨f, g, rfl, hr, b4, hf, hgg⟩
        have R := Lib.hid hr
        have B4 : Hid (Below w3.heap.size w3 w4) := b4
        clear hr b4
        go_wp2_with fail
        go_loopw [13] (fun i wr => ∃ (k g' C : Nat), k ≤ k0 ∧ i = .int .i64 k ∧ Hid (Rg wr f g' C (topw (L.take k)) gb mx (.pointer none) (slOf (lw (turned (fun x => x) (L.take k))))) ∧ w3.heap.size ≤ g' ∧ Hid (Below w3.heap.size w3 wr)) (fun i _ => k0 - (intOf i).toNat)
        case atStart => exact ⟨0, g, n, Nat.zero_le _, rfl, R.out, hgg, B4.out⟩
        case round =>
          obtain ⟨k, g', C, hk, rfl, hR, hg', hB⟩ := hrel
          by_cases hlt : k < k0
          · obtain ⟨⟨i, x⟩, hx⟩ : ∃ p, L[k]? = some p := ⟨L[k]'(by rw [LL.out]; exact hlt), List.getElem?_eq_getElem _⟩
            obtain ⟨ha, hb, hi⟩ := PR.out k _ hx
            simp only at ha hb hi
            obtain ⟨b1, o1, rfl, hb1, hc1⟩ := (A3''.out.below hB.out).2.2.2.2 (by omega)
            obtain ⟨b2, o2, rfl, hb2, hc2⟩ := (A4'.out.below hB.out).2.2.2.2 (by omega)
            have ck1 : wr.cell? ⟨b1, o1 + k, none⟩ = some (.int .i64 (i : Int)) := hc1 k _ (by rw [List.getElem?_map, ha]; rfl)
            have ck2 : wr.cell? ⟨b2, o2 + k, none⟩ = some (.float .f64 x) := hc2 k _ (by rw [List.getElem?_map, hb]; rfl)
            have et : turned (fun x => x) (L.take (k + 1)) = turned (fun x => x) (L.take k) ++ [(i, (fun x => x) x)] := by rw [take_snoc_some hx]; unfold turned; rw [List.map_append]; rfl
            have HE : Hid (topw (L.take (k + 1)) = max (topw (L.take k)) (i + 1) ∧ slOf (lw (turned (fun x => x) (L.take (k + 1)))) = upd (slOf (lw (turned (fun x => x) (L.take k)))) i (.iface 59 (.float .f64 ((fun x => x) x)))) := Lib.hid ⟨by rw [take_snoc_some hx, topw_snoc], by rw [et, lw_snoc, slOf_upd]⟩
            have i0 : (0 : Int) ≤ (k : Int) := by omega
            have i1 : (k : Int) < (n1 : Int) := by omega
            have i2 : (k : Int) < (n2 : Int) := by omega
            have i5 : (k : Int) < (k0 : Int) := by omega
            clear ha hb hc1 hc2 hx et
            go_wp2_with fail
            go_still_tail 9, (by kernel_rfl)
            go_wp2_with fail
            refine (zset_c wr.drew w3.heap.size f g' C _ gb mx _ _ i x (hR.out.drewN 1) hi ⟨hf, hg'⟩ hB.out.size).mono ?_; rintro e w5 ⟨rfl, g5, hr5, ht5, hb5, hg5⟩
            have R5 := Lib.hid hr5
            have B5 := Lib.hid (hB.out.drew.trans hb5)
            have hw := hB.out.size
            have hw2 : w3.heap.size ≤ g5 := by
              rcases hg5 with rfl | h
              · exact hg'
              · exact Nat.le_trans hw h
            clear hr5 ht5 hb5 hg5 hw
            go_wp2_with fail
            go_roundw
            case rel => exact ⟨k + 1, g5, _, by omega, by go_num, Lib.hid (by rw [HE.out.1, HE.out.2]; exact R5.out), hw2, B5.out⟩
            case measure => simp [intOf]; omega
          · obtain rfl : k = k0 := by omega
            have hlk : L.take k = L := List.take_of_length_le (by rw [LL.out]; exact Nat.le_refl _)
            rw [hlk] at hR
            clear hlk
            go_wp2_with fail
            refine (model19_c mx A3 A4 n1 c3 n2 c4 k zs fs L wr (A3''.out.below hB.out) (A4'.out.below hB.out) hm hk1 hk2 (by omega) LL.out PR.out).mono ?_; rintro e w6 ⟨p, q, rfl, hp, hq, b6⟩
            have R6 := Lib.hid (hR.out.below b6)
            have PB6 := Lib.hid hp
            have QB6 := Lib.hid hq
            have B6 : Hid (Below w3.heap.size w3 w6) := hB.out.trans (b6.mono hB.out.size)
            have tm : topw L ≤ mx := by have := PR.out.top L.length; rwa [List.take_length] at this
            have AG : Hid (∀ j, j < topw L → Agree20 (slOf (lw (turned (fun x => x) L)) j) (lw L j).isSome ((lw L j).getD 0)) := Lib.hid (fun j _ => by
              rw [slOf_turned]
              unfold Agree20
              cases lw L j with
              | none => exact .inr ⟨rfl, rfl⟩
              | some y => exact .inl ⟨rfl, _, rfl, SameN.refl _⟩)
            clear hp hq b6
            go_wp2_with fail
            refine (match20_c w6 f g' C (topw L) gb mx _ _ p q mx L R6.out PB6.out QB6.out tm AG.out).mono ?_; rintro e w' ⟨rfl, rfl⟩
            go_wp2_with fail
            go_ret
            exact ⟨rfl, B2.out.trans (B6.out.mono B2.out.size)⟩
      · have P := Lib.hid hP
        clear hP
        go_enter Try.func4, Try.ntmps4
        go_wp2_with fail
        refine (bytes14_c _ _ _ A1 A2 n1 c1 n2 c2 w m1 m2).mono ?_; rintro e w' ⟨b, rfl, rfl⟩
        cases b
        · go_wp2_with fail
          go_ret
          exact ⟨rfl, Below.refl _ _⟩
        go_wp2_with fail
        refine (params9_no _ _ _ w P.out).mono ?_; rintro e w' ⟨rfl, rfl⟩
        go_wp2_with fail
        go_ret
        exact ⟨rfl, Below.refl _ _⟩
    · have s2' : 4096 < n2 := by omega
      clear s2
      go_enter Try.func4, Try.ntmps4
      go_wp2_with fail
      refine (bytes14_c _ _ _ A1 A2 n1 c1 n2 c2 w m1 m2).mono ?_; rintro e w' ⟨b, rfl, rfl⟩
      cases b
      all_goals
        go_wp2_with fail
        go_ret
        exact ⟨rfl, Below.refl _ _⟩
  · have s1' : 4096 < n1 := by omega
    clear s1
    go_enter Try.func4, Try.ntmps4
    go_wp2_with fail
    refine (bytes14_c _ _ _ A1 A2 n1 c1 n2 c2 w m1 m2).mono ?_; rintro e w' ⟨b, rfl, rfl⟩
    cases b
    all_goals
      go_wp2_with fail
      go_ret
      exact ⟨rfl, Below.refl _ _⟩

set_option maxHeartbeats 2000000 in
set_option maxRecDepth 100000 in
theorem law_setN (n0 g0 m0 : Int) (A1 : Option Addr) (n1 c1 : Nat) (zs : List Int) (A2 : Option Addr) (n2 c2 : Nat) (fs : List Nat) (w : World) (r1 : -9223372036854775808 ≤ n0 ∧ n0 ≤ 9223372036854775807) (r2 : -9223372036854775808 ≤ g0 ∧ g0 ≤ 9223372036854775807) (r3 : -9223372036854775808 ≤ m0 ∧ m0 ≤ 9223372036854775807)
    (a1 : Arg w A1 n1 c1 (zs.map (Value.int .i64))) (q1 : ∀ x ∈ zs, -9223372036854775808 ≤ x ∧ x ≤ 9223372036854775807) (a2 : Arg w A2 n2 c2 (fs.map (Value.float .f64))) (q2 : ∀ x ∈ fs, (Lit.float .f64 x).wf = true) :
    Calls Try.prog 5 #[.int .i64 n0, .int .i64 g0, .int .i64 m0, .slice A1 n1 c1, .slice A2 n2 c2] w fun e w' => e = .returned (.bool true) ∧ Below w.heap.size w w' := by
  have m1 : n1 ≤ 9223372036854775807 := by have h1 := a1.2.1; have h2 := a1.2.2.1; unfold maxLen at h2; omega
  have m2 : n2 ≤ 9223372036854775807 := by have h1 := a2.2.1; have h2 := a2.2.2.1; unfold maxLen at h2; omega
  have A1' := Lib.hid a1
  have A2' := Lib.hid a2
  clear a1 a2 q1 q2 r1 r2 r3
  by_cases s1 : n1 ≤ 4096
  · by_cases s2 : n2 ≤ 4096
    · by_cases hP : PB n0 g0 m0
      · have P := Lib.hid hP
        obtain ⟨h1, h2, h3, h4, h5, h6⟩ := hP
        obtain ⟨n, rfl⟩ := Int.eq_ofNat_of_zero_le h1
        obtain ⟨gb, rfl⟩ := Int.eq_ofNat_of_zero_le h3
        obtain ⟨mx, rfl⟩ := Int.eq_ofNat_of_zero_le (show 0 ≤ m0 by omega)
        have hn : n ≤ mx := by omega
        have hm : mx ≤ 65536 := by omega
        have hg : gb ≤ 65536 := by omega
        clear h1 h2 h3 h4 h5 h6
        go_enter Try.func5, Try.ntmps5
        go_wp2_with fail
        refine (bytes21_c _ _ _ A1 A2 n1 c1 n2 c2 w m1 m2).mono ?_; rintro e w' ⟨b, rfl, rfl⟩
        cases b
        · go_wp2_with fail
          go_ret
          exact ⟨rfl, Below.refl _ _⟩
        go_wp2_with fail
        refine (params22_yes _ _ _ w P.out).mono ?_; rintro e w' ⟨rfl, rfl⟩
        go_wp2_with fail
        refine (script23_c (mx : Int) A1 n1 c1 zs w A1'.out (by omega)).mono ?_; rintro e w' ⟨b, rfl, rfl, hbs⟩
        cases b
        · go_wp2_with fail
          go_ret
          exact ⟨rfl, Below.refl _ _⟩
        have BS := Lib.hid (hbs rfl)
        clear hbs
        go_wp2_with fail
        refine (copy_iN A1 n1 c1 zs w A1'.out (by omega)).mono ?_; rintro e w1 ⟨A3, c3, rfl, a3, b1⟩
        have A3' := Lib.hid a3
        have B1 := Lib.hid b1
        have A2'' := Lib.hid (A2'.out.below b1)
        clear a3 b1
        go_wp2_with fail
        refine (copy_fN A2 n2 c2 fs w1 A2''.out (by omega)).mono ?_; rintro e w2 ⟨A4, c4, rfl, a4, b2⟩
        have A4' := Lib.hid a4
        have A3'' := Lib.hid (A3'.out.below b2)
        have B2 := Lib.hid (B1.out.trans (b2.mono B1.out.size))
        clear a4 b2
        go_wp2_with fail
        refine (pairs26_c A3 A4 n1 c3 n2 c4 w2 m1 m2).mono ?_; rintro e w3 ⟨rfl, rfl⟩
        have hmin : min n1 n2 ≤ n1 ∧ min n1 n2 ≤ n2 := ⟨Nat.min_le_left _ _, Nat.min_le_right _ _⟩
        have LL : Hid ((prsOf zs fs).length = min n1 n2) := Lib.hid (by
          rw [prs_len]
          have h1 := A1'.out.1
          have h2 := A2'.out.1
          rw [List.length_map] at h1 h2
          rw [h1, h2])
        have PR := Lib.hid (prs_at (fs := fs) BS.out)
        generalize prsOf zs fs = L at *
        generalize min n1 n2 = k0 at *
        obtain ⟨hk1, hk2⟩ := hmin
        obtain ⟨w3, rfl⟩ : ∃ w3, w3 = w2 := ⟨_, rfl⟩
        go_wp2_with fail
        refine (znewA_c w3 n gb mx hn hm hg).mono ?_; rintro e w4 ⟨a0, f, g, rfl, hr, b4, hf, hgg⟩
        have R := Lib.hid hr
        have B4 : Hid (Below w3.heap.size w3 w4) := b4
        clear hr b4
        go_wp2_with fail
        go_loopw [13] (fun i wr => ∃ (k g' C : Nat), k ≤ k0 ∧ i = .int .i64 k ∧ Hid (Rg wr f g' C (topw (L.take k)) gb mx (.pointer (some a0)) (slOf (lw (turned num0 (L.take k))))) ∧ w3.heap.size ≤ g' ∧ Hid (Below w3.heap.size w3 wr)) (fun i _ => k0 - (intOf i).toNat)
        case atStart => exact ⟨0, g, n, Nat.zero_le _, rfl, R.out, hgg, B4.out⟩
        case round =>
          obtain ⟨k, g', C, hk, rfl, hR, hg', hB⟩ := hrel
          by_cases hlt : k < k0
          · obtain ⟨⟨i, x⟩, hx⟩ : ∃ p, L[k]? = some p := ⟨L[k]'(by rw [LL.out]; exact hlt), List.getElem?_eq_getElem _⟩
            obtain ⟨ha, hb, hi⟩ := PR.out k _ hx
            simp only at ha hb hi
            obtain ⟨b1, o1, rfl, hb1, hc1⟩ := (A3''.out.below hB.out).2.2.2.2 (by omega)
            obtain ⟨b2, o2, rfl, hb2, hc2⟩ := (A4'.out.below hB.out).2.2.2.2 (by omega)
            have ck1 : wr.cell? ⟨b1, o1 + k, none⟩ = some (.int .i64 (i : Int)) := hc1 k _ (by rw [List.getElem?_map, ha]; rfl)
            have ck2 : wr.cell? ⟨b2, o2 + k, none⟩ = some (.float .f64 x) := hc2 k _ (by rw [List.getElem?_map, hb]; rfl)
            have et : turned num0 (L.take (k + 1)) = turned num0 (L.take k) ++ [(i, num0 x)] := by rw [take_snoc_some hx]; unfold turned; rw [List.map_append]; rfl
            have HE : Hid (topw (L.take (k + 1)) = max (topw (L.take k)) (i + 1) ∧ slOf (lw (turned num0 (L.take (k + 1)))) = upd (slOf (lw (turned num0 (L.take k)))) i (.iface 59 (.float .f64 (num0 x)))) := Lib.hid ⟨by rw [take_snoc_some hx, topw_snoc], by rw [et, lw_snoc, slOf_upd]⟩
            have i0 : (0 : Int) ≤ (k : Int) := by omega
            have i1 : (k : Int) < (n1 : Int) := by omega
            have i2 : (k : Int) < (n2 : Int) := by omega
            have i5 : (k : Int) < (k0 : Int) := by omega
            clear ha hb hc1 hc2 hx et
            go_wp2_with fail
            go_still_tail 9, (by kernel_rfl)
            go_wp2_with fail
            refine (zsetNumber_c wr.drew w3.heap.size f g' C _ gb mx _ _ i x (hR.out.drewN 1) hi ⟨hf, hg'⟩ hB.out.size).mono ?_; rintro e w5 ⟨rfl, g5, hr5, ht5, hb5, hg5⟩
            have R5 := Lib.hid hr5
            have B5 := Lib.hid (hB.out.drew.trans hb5)
            have hw := hB.out.size
            have hw2 : w3.heap.size ≤ g5 := by
              rcases hg5 with rfl | h
              · exact hg'
              · exact Nat.le_trans hw h
            clear hr5 ht5 hb5 hg5 hw
            go_wp2_with fail
            go_roundw
            case rel => exact ⟨k + 1, g5, _, by omega, by go_num, Lib.hid (by rw [HE.out.1, HE.out.2]; exact R5.out), hw2, B5.out⟩
            case measure => simp [intOf]; omega
          · obtain rfl : k = k0 := by omega
            have hlk : L.take k = L := List.take_of_length_le (by rw [LL.out]; exact Nat.le_refl _)
            rw [hlk] at hR
            clear hlk
            go_wp2_with fail
            refine (model29_c mx A3 A4 n1 c3 n2 c4 k zs fs L wr (A3''.out.below hB.out) (A4'.out.below hB.out) hm hk1 hk2 (by omega) LL.out PR.out).mono ?_; rintro e w6 ⟨p, q, rfl, hp, hq, b6⟩
            have R6 := Lib.hid (hR.out.below b6)
            have PB6 := Lib.hid hp
            have QB6 := Lib.hid hq
            have B6 : Hid (Below w3.heap.size w3 w6) := hB.out.trans (b6.mono hB.out.size)
            have tm : topw L ≤ mx := by have := PR.out.top L.length; rwa [List.take_length] at this
            have AG : Hid (∀ j, j < topw L → Agree30 (slOf (lw (turned num0 L)) j) (lw L j).isSome ((lw L j).getD 0)) := Lib.hid (fun j _ => by
              rw [slOf_turned]
              unfold Agree30
              cases lw L j with
              | none => exact .inr ⟨rfl, rfl⟩
              | some y => exact .inl ⟨rfl, _, rfl, same_num0 _⟩)
            clear hp hq b6
            go_wp2_with fail
            refine (match30_c w6 f g' C (topw L) gb mx _ _ p q mx L R6.out PB6.out QB6.out tm AG.out).mono ?_; rintro e w' ⟨rfl, rfl⟩
            go_wp2_with fail
            go_ret
            exact ⟨rfl, B2.out.trans (B6.out.mono B2.out.size)⟩
      · have P := Lib.hid hP
        clear hP
        go_enter Try.func5, Try.ntmps5
        go_wp2_with fail
        refine (bytes21_c _ _ _ A1 A2 n1 c1 n2 c2 w m1 m2).mono ?_; rintro e w' ⟨b, rfl, rfl⟩
        cases b
        · go_wp2_with fail
          go_ret
          exact ⟨rfl, Below.refl _ _⟩
        go_wp2_with fail
        refine (params22_no _ _ _ w P.out).mono ?_; rintro e w' ⟨rfl, rfl⟩
        go_wp2_with fail
        go_ret
        exact ⟨rfl, Below.refl _ _⟩
    · have s2' : 4096 < n2 := by omega
      clear s2
      go_enter Try.func5, Try.ntmps5
      go_wp2_with fail
      refine (bytes21_c _ _ _ A1 A2 n1 c1 n2 c2 w m1 m2).mono ?_; rintro e w' ⟨b, rfl, rfl⟩
      cases b
      all_goals
        go_wp2_with fail
        go_ret
        exact ⟨rfl, Below.refl _ _⟩
  · have s1' : 4096 < n1 := by omega
    clear s1
    go_enter Try.func5, Try.ntmps5
    go_wp2_with fail
    refine (bytes21_c _ _ _ A1 A2 n1 c1 n2 c2 w m1 m2).mono ?_; rintro e w' ⟨b, rfl, rfl⟩
    cases b
    all_goals
      go_wp2_with fail
      go_ret
      exact ⟨rfl, Below.refl _ _⟩
end Go.Proofs.Ytddmpdiidnamkaa
