/-
  The law: two writes at two slots, in either order, leave the same registry.
-/
import Derived.Test.YtddmpdiidnamkaaLaw1
namespace Go.Proofs.Ytddmpdiidnamkaa
open Go.RowKit
set_option linter.unusedVariables false

theorem upd_comm (sl : Nat → Value) (i j : Nat) (X Y : Value) (h : i ≠ j) : upd (upd sl j Y) i X = upd (upd sl i X) j Y := by
  funext t
  unfold upd
  by_cases h1 : t = i
  · subst h1; simp [h]
  · simp [h1]
def IsNum (v : Value) : Prop := v = .nilIface ∨ ∃ y, v = .iface 59 (.float .f64 y)
theorem upd_num {sl : Nat → Value} (h : ∀ t, IsNum (sl t)) (i x : Nat) : ∀ t, IsNum (upd sl i (.iface 59 (.float .f64 x)) t) := by
  intro t
  unfold upd
  split
  · exact .inr ⟨x, rfl⟩
  · exact h t

set_option maxHeartbeats 2000000 in
set_option maxRecDepth 100000 in
theorem com_core (n gb mx i j x y : Nat) (w : World) (hn : n ≤ mx) (hm : mx ≤ 65536) (hg : gb ≤ 65536) (P : Hid (PB n gb mx)) (hi : i < mx) (hj : j < mx) (hne : i ≠ j) :
    Calls Try.prog 6 #[.int .i64 (n : Int), .int .i64 (gb : Int), .int .i64 (mx : Int), .int .i64 (i : Int), .int .i64 (j : Int), .float .f64 x, .float .f64 y] w fun e w' => e = .returned (.bool true) ∧ Below w.heap.size w w' := by
  have e0 : ((i : Int) == (j : Int)) = false := by simp; omega
  have i0 : (0 : Int) ≤ (i : Int) := by omega
  have i1 : (i : Int) < (mx : Int) := by omega
  have j0 : (0 : Int) ≤ (j : Int) := by omega
  have j1 : (j : Int) < (mx : Int) := by omega
  have HI := Lib.hid (And.intro hi hj)
  have HNE := Lib.hid hne
  clear hi hj hne
  go_enter Try.func6, Try.ntmps6
  go_wp2_with fail
  refine (params9_yes _ _ _ w P.out).mono ?_; rintro e w' ⟨rfl, rfl⟩
  go_wp2_with fail
  clear i0 i1 j0 j1 e0
  refine (znew_c w n gb mx hn hm hg).mono ?_; rintro e w1 ⟨f, g, rfl, hr, b1, hf, hgg⟩
  have R1 := Lib.hid hr
  have B1 := Lib.hid b1
  clear hr b1
  go_wp2_with fail
  refine (zset_c w1 w.heap.size f g _ _ gb mx _ _ i x R1.out HI.out.1 ⟨hf, hgg⟩ B1.out.size).mono ?_; rintro e w2 ⟨rfl, g2, hr, ht, hb, hg2⟩
  have R2 := Lib.hid hr
  have B2 := Lib.hid (B1.out.trans hb)
  have hgg2 : w.heap.size ≤ g2 := by
    rcases hg2 with rfl | h
    · exact hgg
    · exact Nat.le_trans B1.out.size h
  clear hr ht hb hg2
  go_wp2_with fail
  refine (zset_c w2 w.heap.size f g2 _ _ gb mx _ _ j y R2.out HI.out.2 ⟨hf, hgg2⟩ B2.out.size).mono ?_; rintro e w3 ⟨rfl, g3, hr, ht, hb, hg3⟩
  have R3 := Lib.hid hr
  have B3 := Lib.hid (B2.out.trans hb)
  clear hr ht hb hg3
  go_wp2_with fail
  refine (znew_c w3 n gb mx hn hm hg).mono ?_; rintro e w4 ⟨f', h, rfl, hr, b4, hf', hh⟩
  have R4 := Lib.hid hr
  have B4 := Lib.hid b4
  clear hr b4
  go_wp2_with fail
  refine (zset_c w4 w3.heap.size f' h _ _ gb mx _ _ j y R4.out HI.out.2 ⟨hf', hh⟩ B4.out.size).mono ?_; rintro e w5 ⟨rfl, h2, hr, ht, hb, hh2⟩
  have R5 := Lib.hid hr
  have B5 := Lib.hid (B4.out.trans hb)
  have hhh2 : w3.heap.size ≤ h2 := by
    rcases hh2 with rfl | h
    · exact hh
    · exact Nat.le_trans B4.out.size h
  clear hr ht hb hh2
  go_wp2_with fail
  refine (zset_c w5 w3.heap.size f' h2 _ _ gb mx _ _ i x R5.out HI.out.1 ⟨hf', hhh2⟩ B5.out.size).mono ?_; rintro e w6 ⟨rfl, h3, hr, ht, hb, hh3⟩
  have B6 := Lib.hid (B5.out.trans hb)
  have RA := Lib.hid (R3.out.below B6.out)
  have BT := Lib.hid (B3.out.trans (B6.out.mono B3.out.size))
  have et : max (max 0 (j + 1)) (i + 1) = max (max 0 (i + 1)) (j + 1) := by omega
  rw [upd_comm _ i j _ _ HNE.out, et] at hr
  have RB := Lib.hid hr
  have hT : i < max (max 0 (i + 1)) (j + 1) ∧ j < max (max 0 (i + 1)) (j + 1) := by omega
  have HN := Lib.hid (upd_num (upd_num (sl := fun _ => .nilIface) (fun _ => .inl rfl) i x) j y)
  have HX : Hid (upd (upd (fun _ => .nilIface) i (.iface 59 (.float .f64 x))) j (.iface 59 (.float .f64 y)) i = .iface 59 (.float .f64 x)) := Lib.hid (by unfold upd; simp [HNE.out])
  have HY : Hid (upd (upd (fun _ => .nilIface) i (.iface 59 (.float .f64 x))) j (.iface 59 (.float .f64 y)) j = .iface 59 (.float .f64 y)) := Lib.hid (by unfold upd; simp)
  clear hr ht hb hh3 et R1 R2 R3 R4 R5 B1 B2 B3 B4 B5 B6
  generalize upd (upd (fun _ => .nilIface) i (.iface 59 (.float .f64 x))) j (.iface 59 (.float .f64 y)) = S at *
  generalize capOf (capOf n gb mx (i + 1)) gb mx (j + 1) = CA at *
  generalize capOf (capOf n gb mx (j + 1)) gb mx (i + 1) = CB at *
  generalize max (max 0 (i + 1)) (j + 1) = T at *
  obtain ⟨l1, l2, l3, l4⟩ := RA.out.le
  obtain ⟨l1', _, _, _⟩ := RB.out.le
  have e1 : ((T : Int) == (T : Int)) = true := by simp
  go_wp2_with fail
  refine (top_c w6 f g3 CA T gb mx _ S RA.out).mono ?_; rintro e w' ⟨rfl, rfl⟩
  go_wp2_with fail
  refine (top_c w6 f' h3 CB T gb mx _ S RB.out).mono ?_; rintro e w' ⟨rfl, rfl⟩
  go_wp2_with fail
  clear e1
  go_loopw [17] (fun i wr => ∃ k : Nat, k ≤ T ∧ i = .int .i64 k ∧ wr = w6) (fun i _ => T - (intOf i).toNat)
  case atStart => exact ⟨0, Nat.zero_le _, rfl, rfl⟩
  case round =>
    obtain ⟨k, hk, rfl, rfl⟩ := hrel
    by_cases hlt : k < T
    · have i5 : (k : Int) < (T : Int) := by omega
      rcases HN.out k with hv | ⟨z, hv⟩
      · have SA := Lib.hid (slot_c wr f g3 CA T gb mx _ S k 0 0 RA.out (by omega) (.inl ⟨hv, rfl, rfl⟩))
        have SB := Lib.hid (slot_c wr f' h3 CB T gb mx _ S k 0 0 RB.out (by omega) (.inl ⟨hv, rfl, rfl⟩))
        clear hv
        go_wp2_with fail
        refine (top_c wr f g3 CA T gb mx _ S RA.out).mono ?_; rintro e w' ⟨rfl, rfl⟩
        go_wp2_with fail
        refine SA.out.mono ?_; rintro e w' ⟨rfl, rfl⟩
        go_wp2_with fail
        refine SB.out.mono ?_; rintro e w' ⟨rfl, rfl⟩
        go_wp2_with fail
        refine (same32_c 0 0 _ (SameN.refl 0)).mono ?_; rintro e w' ⟨rfl, rfl⟩
        go_wp2_with fail
        go_roundw
        case rel => exact ⟨k + 1, by omega, by go_num, by first | rfl | trivial⟩
        case measure => simp [intOf]; omega
      · have SA := Lib.hid (slot_c wr f g3 CA T gb mx _ S k 1 z RA.out (by omega) (.inr ⟨hv, rfl⟩))
        have SB := Lib.hid (slot_c wr f' h3 CB T gb mx _ S k 1 z RB.out (by omega) (.inr ⟨hv, rfl⟩))
        clear hv
        go_wp2_with fail
        refine (top_c wr f g3 CA T gb mx _ S RA.out).mono ?_; rintro e w' ⟨rfl, rfl⟩
        go_wp2_with fail
        refine SA.out.mono ?_; rintro e w' ⟨rfl, rfl⟩
        go_wp2_with fail
        refine SB.out.mono ?_; rintro e w' ⟨rfl, rfl⟩
        go_wp2_with fail
        refine (same32_c z z _ (SameN.refl z)).mono ?_; rintro e w' ⟨rfl, rfl⟩
        go_wp2_with fail
        go_roundw
        case rel => exact ⟨k + 1, by omega, by go_num, by first | rfl | trivial⟩
        case measure => simp [intOf]; omega
    · have hkt : k = T := by omega
      subst hkt
      have SA := Lib.hid (slot_c wr f g3 CA k gb mx _ S i 1 x RA.out (by omega) (.inr ⟨HX.out, rfl⟩))
      have SB := Lib.hid (slot_c wr f g3 CA k gb mx _ S j 1 y RA.out (by omega) (.inr ⟨HY.out, rfl⟩))
      go_wp2_with fail
      refine (top_c wr f g3 CA k gb mx _ S RA.out).mono ?_; rintro e w' ⟨rfl, rfl⟩
      go_wp2_with fail
      refine SA.out.mono ?_; rintro e w' ⟨rfl, rfl⟩
      go_wp2_with fail
      refine SB.out.mono ?_; rintro e w' ⟨rfl, rfl⟩
      go_wp2_with fail
      refine (same32_c x x _ (SameN.refl x)).mono ?_; rintro e w' ⟨rfl, rfl⟩
      go_wp2_with fail
      refine (same32_c y y _ (SameN.refl y)).mono ?_; rintro e w' ⟨rfl, rfl⟩
      go_wp2_with fail
      go_ret
      exact ⟨rfl, BT.out⟩

set_option maxHeartbeats 1000000 in
set_option maxRecDepth 100000 in
theorem law_com (n0 g0 m0 i0 j0 : Int) (x y : Nat) (w : World) (r1 : -9223372036854775808 ≤ n0 ∧ n0 ≤ 9223372036854775807) (r2 : -9223372036854775808 ≤ g0 ∧ g0 ≤ 9223372036854775807) (r3 : -9223372036854775808 ≤ m0 ∧ m0 ≤ 9223372036854775807) (r4 : -9223372036854775808 ≤ i0 ∧ i0 ≤ 9223372036854775807) (r5 : -9223372036854775808 ≤ j0 ∧ j0 ≤ 9223372036854775807) (r6 : (Lit.float .f64 x).wf = true) (r7 : (Lit.float .f64 y).wf = true) :
    Calls Try.prog 6 #[.int .i64 n0, .int .i64 g0, .int .i64 m0, .int .i64 i0, .int .i64 j0, .float .f64 x, .float .f64 y] w fun e w' => e = .returned (.bool true) ∧ Below w.heap.size w w' := by
  clear r1 r2 r3 r4 r5 r6 r7
  by_cases hP : PB n0 g0 m0
  · by_cases hgood : 0 ≤ i0 ∧ i0 < m0 ∧ 0 ≤ j0 ∧ j0 < m0 ∧ i0 ≠ j0
    · have P := Lib.hid hP
      obtain ⟨h1, h2, h3, h4, h5, h6⟩ := hP
      obtain ⟨k1, k2, k3, k4, k5⟩ := hgood
      obtain ⟨n, rfl⟩ := Int.eq_ofNat_of_zero_le h1
      obtain ⟨gb, rfl⟩ := Int.eq_ofNat_of_zero_le h3
      obtain ⟨mx, rfl⟩ := Int.eq_ofNat_of_zero_le (show 0 ≤ m0 by omega)
      obtain ⟨i, rfl⟩ := Int.eq_ofNat_of_zero_le k1
      obtain ⟨j, rfl⟩ := Int.eq_ofNat_of_zero_le k3
      exact com_core n gb mx i j x y w (by omega) (by omega) (by omega) P (by omega) (by omega) (by omega)
    · have P := Lib.hid hP
      clear hP
      by_cases k1 : 0 ≤ i0
      · by_cases k2 : i0 < m0
        · by_cases k3 : 0 ≤ j0
          · by_cases k4 : j0 < m0
            · obtain rfl : i0 = j0 := by omega
              have e1 : (i0 == i0) = true := by simp
              clear hgood
              go_enter Try.func6, Try.ntmps6
              go_wp2_with fail
              refine (params9_yes _ _ _ w P.out).mono ?_; rintro e w' ⟨rfl, rfl⟩
              go_wp2_with fail
              go_ret
              exact ⟨rfl, Below.refl _ _⟩
            · clear hgood
              go_enter Try.func6, Try.ntmps6
              go_wp2_with fail
              refine (params9_yes _ _ _ w P.out).mono ?_; rintro e w' ⟨rfl, rfl⟩
              go_wp2_with fail
              go_ret
              exact ⟨rfl, Below.refl _ _⟩
          · clear hgood
            go_enter Try.func6, Try.ntmps6
            go_wp2_with fail
            refine (params9_yes _ _ _ w P.out).mono ?_; rintro e w' ⟨rfl, rfl⟩
            go_wp2_with fail
            go_ret
            exact ⟨rfl, Below.refl _ _⟩
        · clear hgood
          go_enter Try.func6, Try.ntmps6
          go_wp2_with fail
          refine (params9_yes _ _ _ w P.out).mono ?_; rintro e w' ⟨rfl, rfl⟩
          go_wp2_with fail
          go_ret
          exact ⟨rfl, Below.refl _ _⟩
      · clear hgood
        go_enter Try.func6, Try.ntmps6
        go_wp2_with fail
        refine (params9_yes _ _ _ w P.out).mono ?_; rintro e w' ⟨rfl, rfl⟩
        go_wp2_with fail
        go_ret
        exact ⟨rfl, Below.refl _ _⟩
  · have P := Lib.hid hP
    clear hP
    go_enter Try.func6, Try.ntmps6
    go_wp2_with fail
    refine (params9_no _ _ _ w P.out).mono ?_; rintro e w' ⟨rfl, rfl⟩
    go_wp2_with fail
    go_ret
    exact ⟨rfl, Below.refl _ _⟩
end Go.Proofs.Ytddmpdiidnamkaa
