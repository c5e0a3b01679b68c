/-
  The makers of a registry, and the two laws without a script: fullness, and writes at two slots in either order.
-/
import Derived.Test.YtddmpdiidnamkaaPre
namespace Go.Proofs.Ytddmpdiidnamkaa
open Go.RowKit
set_option linter.unusedVariables false

def NewPost (w : World) (n gb mx : Nat) (al : Option Addr) (e : Ending) (w' : World) : Prop := ∃ f g, e = .returned (.pointer (some ⟨f, 0, none⟩)) ∧ Rg w' f g n 0 gb mx (.pointer al) (fun _ => .nilIface) ∧ Below w.heap.size w w' ∧ w.heap.size ≤ f ∧ w.heap.size ≤ g
theorem znew_c (w : World) (n gb mx : Nat) (hn : n ≤ mx) (hm : mx ≤ 65536) (hg : gb ≤ 65536) : Calls Try.prog 10 #[.int .i64 (n : Int), .int .i64 (gb : Int), .int .i64 (mx : Int)] w (NewPost w n gb mx none) := by
  have H := Lib.hid (new_c w n gb mx (.pointer none) hn hm hg (.inl rfl))
  go_enter Try.func10, Try.ntmps10
  go_wp2_with fail
  refine H.out.mono ?_; rintro e w' ⟨f, g, rfl, h1, h2, h3, h4⟩
  have H1 := Lib.hid h1
  have H2 := Lib.hid h2
  clear h1 h2
  go_wp2_with fail
  go_ret
  exact ⟨f, g, rfl, H1.out, H2.out, h3, h4⟩
theorem znewA_c (w : World) (n gb mx : Nat) (hn : n ≤ mx) (hm : mx ≤ 65536) (hg : gb ≤ 65536) : Calls Try.prog 27 #[.int .i64 (n : Int), .int .i64 (gb : Int), .int .i64 (mx : Int)] w fun e w' => ∃ a, NewPost w n gb mx (some a) e w' := by
  have H := Lib.hid (fun (W : World) a => new_c W n gb mx (.pointer (some a)) hn hm hg (.inr ⟨a, rfl⟩))
  go_enter Try.func27, Try.ntmps27
  go_wp2_with (go_at_call 42; go_in)
  have b0 : Hid (Below w.heap.size w (w.alloc (.cells #[.int .i64 32] 72))) := (Below.refl _ _).alloc (Nat.le_refl _) _
  refine (H.out _ ⟨w.heap.size, 0, none⟩).mono ?_; rintro e w' ⟨f, g, rfl, h1, h2, h3, h4⟩
  have H1 := Lib.hid h1
  have H2 := Lib.hid (b0.out.trans (h2.mono b0.out.size))
  have hs := b0.out.size
  have h3' : w.heap.size ≤ f := by omega
  have h4' : w.heap.size ≤ g := by omega
  clear h1 h2 h3 h4 hs
  go_wp2_with fail
  go_ret
  exact ⟨_, f, g, rfl, H1.out, H2.out, h3', h4'⟩
theorem full_yes (w : World) (f g C top gb mx : Nat) (al : Value) (sl : Nat → Value) (h : Rg w f g C top gb mx al sl) (ht : C ≤ top) : Calls Try.prog 11 #[.pointer (some ⟨f, 0, none⟩)] w fun e w' => e = .returned (.bool true) ∧ ∃ q, w.drewN q = w' :=
  (full_c w f g C top gb mx al sl h).mono fun e w' ⟨h1, h2⟩ => ⟨by rw [h1, decide_eq_true ht], h2⟩
theorem full_no (w : World) (f g C top gb mx : Nat) (al : Value) (sl : Nat → Value) (h : Rg w f g C top gb mx al sl) (ht : ¬ C ≤ top) : Calls Try.prog 11 #[.pointer (some ⟨f, 0, none⟩)] w fun e w' => e = .returned (.bool false) ∧ ∃ q, w.drewN q = w' :=
  (full_c w f g C top gb mx al sl h).mono fun e w' ⟨h1, h2⟩ => ⟨by rw [h1, decide_eq_false ht], h2⟩
theorem Rg.drewN {w : World} {f g C top gb mx : Nat} {al : Value} {sl : Nat → Value} (h : Rg w f g C top gb mx al sl) (q : Nat) : Rg (w.drewN q) f g C top gb mx al sl := ⟨h.head, h.row, h.le, h.fresh, h.one⟩
theorem Rg.far {w w' : World} {f g C top gb mx : Nat} {al : Value} {sl : Nat → Value} {f2 g2 : Nat} (h : Rg w f g C top gb mx al sl) (ht : Tur w w' f2 g2) (h1 : f ≠ f2 ∧ f ≠ g2 ∧ g ≠ f2 ∧ g ≠ g2) : Rg w' f g C top gb mx al sl :=
  ⟨(ht.2 f h.head.lt h1.1 h1.2.1).trans h.head, (ht.2 g h.row.lt h1.2.2.1 h1.2.2.2).trans h.row, h.le, h.fresh, h.one⟩
theorem Rg.below {w w' : World} {f g C top gb mx : Nat} {al : Value} {sl : Nat → Value} (h : Rg w f g C top gb mx al sl) (hb : Below w.heap.size w w') : Rg w' f g C top gb mx al sl :=
  ⟨h.head.below hb h.head.lt, h.row.below hb h.row.lt, h.le, h.fresh, h.one⟩

set_option maxHeartbeats 1000000 in
set_option maxRecDepth 100000 in
theorem law_full (n0 g0 m0 : Int) (x : Nat) (w : World) (r1 : -9223372036854775808 ≤ n0 ∧ n0 ≤ 9223372036854775807) (r2 : -9223372036854775808 ≤ g0 ∧ g0 ≤ 9223372036854775807) (r3 : -9223372036854775808 ≤ m0 ∧ m0 ≤ 9223372036854775807) (r4 : (Lit.float .f64 x).wf = true) :
    Calls Try.prog 3 #[.int .i64 n0, .int .i64 g0, .int .i64 m0, .float .f64 x] w fun e w' => e = .returned (.bool true) ∧ Below w.heap.size w w' := by
  clear r1 r2 r3 r4
  by_cases hP : PB n0 g0 m0
  · have P := Lib.hid hP
    obtain ⟨h1, h2, h3, h4, h5, h6⟩ := hP
    obtain ⟨n, rfl⟩ := Int.eq_ofNat_of_zero_le h1
    obtain ⟨gb, rfl⟩ := Int.eq_ofNat_of_zero_le h3
    obtain ⟨mx, rfl⟩ := Int.eq_ofNat_of_zero_le (show 0 ≤ m0 by omega)
    have hn : n ≤ mx := by omega
    have hm : mx ≤ 65536 := by omega
    have hg : gb ≤ 65536 := by omega
    clear h1 h2 h3 h4 h5 h6
    go_enter Try.func3, Try.ntmps3
    go_wp2_with fail
    refine (params9_yes _ _ _ w P.out).mono ?_; rintro e w' ⟨rfl, rfl⟩
    go_wp2_with fail
    refine (znew_c w n gb mx hn hm hg).mono ?_; rintro e w1 ⟨f, g, rfl, hr, b1, hf, hgg⟩
    have R := Lib.hid hr
    have B1 := Lib.hid b1
    have hfl := hr.head.lt
    have hgl := hr.row.lt
    clear hr b1
    have key : ∀ q, Hid (Rg (w1.drewN q) f g n 0 gb mx (.pointer none) (fun _ => .nilIface)) := fun q => Lib.hid (R.out.drewN q)
    by_cases h0 : n = 0
    · have e0 : ((n : Int) == 0) = true := by simp; omega
      go_wp2_with fail
      refine (full_yes w1 f g n 0 gb mx _ _ R.out (by omega)).mono ?_; rintro e w' ⟨rfl, q, rfl⟩
      have R1 := key q
      have B2 := Lib.hid (below_drewN B1.out q)
      generalize w1.drewN q = w2 at *
      clear key
      by_cases hx : mx < 1
      · go_wp2_with fail
        go_ret
        exact ⟨rfl, B2.out⟩
      · go_wp2_with fail
        have hset := zset_c w2 w.heap.size f g n 0 gb mx _ _ (mx - 1) x R1.out (by omega) ⟨hf, hgg⟩ B2.out.size
        rw [show ((mx - 1 : Nat) : Int) = (mx : Int) - 1 by omega] at hset
        refine hset.mono ?_; rintro e w3 ⟨rfl, g3, hr3, ht3, hb3, hg3⟩
        have hcap : capOf n gb mx (mx - 1 + 1) = mx := by unfold capOf; split <;> omega
        rw [hcap, show max 0 (mx - 1 + 1) = mx by omega] at hr3
        have R3 := Lib.hid hr3
        have B3 := Lib.hid (B2.out.trans hb3)
        clear hr3 ht3 hb3 hset hcap
        have e1 : ((mx : Int) == (mx : Int)) = true := by simp
        go_wp2_with fail
        refine (full_yes w3 f g3 mx mx gb mx _ _ R3.out (Nat.le_refl _)).mono ?_; rintro e w' ⟨rfl, q4, rfl⟩
        go_wp2_with fail
        refine (top_c _ f g3 mx mx gb mx _ _ (R3.out.drewN q4)).mono ?_; rintro e w' ⟨rfl, rfl⟩
        go_wp2_with fail
        go_ret
        exact ⟨rfl, below_drewN B3.out _⟩
    · have e0 : ((n : Int) == 0) = false := by simp; omega
      go_wp2_with fail
      refine (full_no w1 f g n 0 gb mx _ _ R.out (by omega)).mono ?_; rintro e w' ⟨rfl, q, rfl⟩
      have R1 := key q
      have B2 := Lib.hid (below_drewN B1.out q)
      generalize w1.drewN q = w2 at *
      clear key
      by_cases hx : mx < 1
      · exact absurd hx (by omega)
      · go_wp2_with fail
        have hset := zset_c w2 w.heap.size f g n 0 gb mx _ _ (mx - 1) x R1.out (by omega) ⟨hf, hgg⟩ B2.out.size
        rw [show ((mx - 1 : Nat) : Int) = (mx : Int) - 1 by omega] at hset
        refine hset.mono ?_; rintro e w3 ⟨rfl, g3, hr3, ht3, hb3, hg3⟩
        have hcap : capOf n gb mx (mx - 1 + 1) = mx := by unfold capOf; split <;> omega
        rw [hcap, show max 0 (mx - 1 + 1) = mx by omega] at hr3
        have R3 := Lib.hid hr3
        have B3 := Lib.hid (B2.out.trans hb3)
        clear hr3 ht3 hb3 hset hcap
        have e1 : ((mx : Int) == (mx : Int)) = true := by simp
        go_wp2_with fail
        refine (full_yes w3 f g3 mx mx gb mx _ _ R3.out (Nat.le_refl _)).mono ?_; rintro e w' ⟨rfl, q4, rfl⟩
        go_wp2_with fail
        refine (top_c _ f g3 mx mx gb mx _ _ (R3.out.drewN q4)).mono ?_; rintro e w' ⟨rfl, rfl⟩
        go_wp2_with fail
        go_ret
        exact ⟨rfl, below_drewN B3.out _⟩
  · have P := Lib.hid hP
    clear hP
    go_enter Try.func3, Try.ntmps3
    go_wp2_with fail
    refine (params9_no _ _ _ w P.out).mono ?_; rintro e w' ⟨rfl, rfl⟩
    go_wp2_with fail
    go_ret
    exact ⟨rfl, Below.refl _ _⟩
end Go.Proofs.Ytddmpdiidnamkaa
