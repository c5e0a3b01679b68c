/-
  The walks through the laws' own byte-wise comparison and through the three laws on strCmp.
-/
import Derived.Test.YtmlhjgledpglhaaStr
namespace Go.Proofs.Ytmlhjgledpglhaa
open Go.RowKit
set_option linter.unusedVariables false

theorem str_ne {a b : ByteArray} (h : a ≠ b) : (a.toList == b.toList) = false := by
  rw [ByteArray.toList_eq, ByteArray.toList_eq]
  refine beq_eq_false_iff_ne.2 fun e => h ?_
  cases a; cases b
  simpa using e

theorem zcmp_c (a b : ByteArray) (w : World) (ha : a.size ≤ 1048576) (hb : b.size ≤ 1048576) :
    Calls Try.prog 14 #[.string a, .string b] w fun e w' => e = .returned (.int .i64 (cmpL (bs a) (bs b))) ∧ w = w' := by
  go_enter Try.func14, Try.ntmps14
  go_wp2_with fail
  refine (strCmp_c a b w ha hb).mono ?_; rintro e w' ⟨rfl, rfl⟩
  go_wp2_with fail
  go_ret
  exact ⟨rfl, rfl⟩

theorem byteCmp_c (a b : ByteArray) (w : World) (ha : a.size ≤ 1048576) (hb : b.size ≤ 1048576) :
    Calls Try.prog 15 #[.string a, .string b] w fun e w' => e = .returned (.int .i64 (cmpL (bs a) (bs b))) ∧ ∃ q, w' = w.drewN q := by
  have LA := Lib.hid (bs_length a)
  have LB := Lib.hid (bs_length b)
  rcases Nat.lt_or_ge b.size a.size with hmin | hmin
  · have hm : (b.size : Int) < (a.size : Int) := by omega
    go_enter Try.func15, Try.ntmps15
    go_wp2
    go_loopw [6] (fun i wr => ∃ k q : Nat, k ≤ b.size ∧ i = .int .i64 k ∧ Hid (cmpL ((bs a).drop k) ((bs b).drop k) = cmpL (bs a) (bs b)) ∧ wr = w.drewN q) (fun i _ => b.size - (intOf i).toNat)
    case atStart => exact ⟨0, 0, Nat.zero_le _, rfl, Lib.hid rfl, rfl⟩
    case round =>
      obtain ⟨k, q, hk, rfl, hC, rfl⟩ := hrel
      have i0 : (0 : Int) ≤ (k : Int) := by omega
      by_cases h1 : k < b.size
      · obtain ⟨x, hx, hx2⟩ := bs_some (s := a) (k := k) (by omega)
        obtain ⟨y, hy, hy2⟩ := bs_some (s := b) (k := k) (by omega)
        have X1 := run_at hx
        have Y1 := run_at hy
        have HX := Lib.hid hx
        have HY := Lib.hid hy
        clear hx hy
        rcases Nat.lt_trichotomy x y with hxy | hxy | hxy
        · have HD : Hid (cmpL (bs a) (bs b) = -1) := by show _ = _; rw [← hC.out, cmpL_drop HX.out HY.out, if_pos hxy]
          have q1 : (x : Int) < (y : Int) := by omega
          go_wp2
          go_quiet (fail)
          go_wp2
          go_ret
          exact ⟨by rw [HD.out]; rfl, _, by first | rfl | rw [World.drewN_drewN, World.drewN_drewN] | rw [World.drewN_drewN]⟩
        · subst hxy
          have HD : Hid (cmpL ((bs a).drop (k + 1)) ((bs b).drop (k + 1)) = cmpL (bs a) (bs b)) := by show _ = _; rw [← hC.out, cmpL_drop HX.out HY.out, if_neg (Nat.lt_irrefl _), if_neg (Nat.lt_irrefl _)]
          have q1 : ¬ (x : Int) < (x : Int) := by omega
          go_wp2
          go_quiet (fail)
          go_wp2
          go_quiet (fail)
          go_wp2
          go_roundw
          case rel => exact ⟨k + 1, _, by omega, by go_num, HD.out, by first | rfl | rw [World.drewN_drewN, World.drewN_drewN] | rw [World.drewN_drewN]⟩
          case measure => simp [intOf]; omega
        · have HD : Hid (cmpL (bs a) (bs b) = 1) := by show _ = _; rw [← hC.out, cmpL_drop HX.out HY.out, if_neg (by omega), if_pos hxy]
          have q1 : ¬ (x : Int) < (y : Int) := by omega
          have q2 : (y : Int) < (x : Int) := by omega
          go_wp2
          go_quiet (fail)
          go_wp2
          go_quiet (fail)
          go_wp2
          go_ret
          exact ⟨by rw [HD.out]; rfl, _, by first | rfl | rw [World.drewN_drewN, World.drewN_drewN] | rw [World.drewN_drewN]⟩
      · rcases Nat.lt_trichotomy a.size b.size with hs | hs | hs
        · have HD : Hid (cmpL (bs a) (bs b) = -1) := by show _ = _; rw [← hC.out, cmpL_left (by rw [LA.out]; omega) (by rw [LB.out]; omega)]
          have q1 : (a.size : Int) < (b.size : Int) := by omega
          go_wp2
          go_ret
          exact ⟨by rw [HD.out]; rfl, _, by first | rfl | rw [World.drewN_drewN, World.drewN_drewN] | rw [World.drewN_drewN]⟩
        · have HD : Hid (cmpL (bs a) (bs b) = 0) := by show _ = _; rw [← hC.out, cmpL_both (by rw [LA.out]; omega) (by rw [LB.out]; omega)]
          have q1 : ¬ (a.size : Int) < (b.size : Int) := by omega
          have q2 : ¬ (b.size : Int) < (a.size : Int) := by omega
          go_wp2
          go_ret
          exact ⟨by rw [HD.out]; rfl, _, by first | rfl | rw [World.drewN_drewN, World.drewN_drewN] | rw [World.drewN_drewN]⟩
        · have HD : Hid (cmpL (bs a) (bs b) = 1) := by show _ = _; rw [← hC.out, cmpL_right (by rw [LA.out]; omega) (by rw [LB.out]; omega)]
          have q1 : ¬ (a.size : Int) < (b.size : Int) := by omega
          have q2 : (b.size : Int) < (a.size : Int) := by omega
          go_wp2
          go_ret
          exact ⟨by rw [HD.out]; rfl, _, by first | rfl | rw [World.drewN_drewN, World.drewN_drewN] | rw [World.drewN_drewN]⟩
  · have hm : ¬ (b.size : Int) < (a.size : Int) := by omega
    go_enter Try.func15, Try.ntmps15
    go_wp2
    go_loopw [6] (fun i wr => ∃ k q : Nat, k ≤ a.size ∧ i = .int .i64 k ∧ Hid (cmpL ((bs a).drop k) ((bs b).drop k) = cmpL (bs a) (bs b)) ∧ wr = w.drewN q) (fun i _ => a.size - (intOf i).toNat)
    case atStart => exact ⟨0, 0, Nat.zero_le _, rfl, Lib.hid rfl, rfl⟩
    case round =>
      obtain ⟨k, q, hk, rfl, hC, rfl⟩ := hrel
      have i0 : (0 : Int) ≤ (k : Int) := by omega
      by_cases h1 : k < a.size
      · obtain ⟨x, hx, hx2⟩ := bs_some (s := a) (k := k) (by omega)
        obtain ⟨y, hy, hy2⟩ := bs_some (s := b) (k := k) (by omega)
        have X1 := run_at hx
        have Y1 := run_at hy
        have HX := Lib.hid hx
        have HY := Lib.hid hy
        clear hx hy
        rcases Nat.lt_trichotomy x y with hxy | hxy | hxy
        · have HD : Hid (cmpL (bs a) (bs b) = -1) := by show _ = _; rw [← hC.out, cmpL_drop HX.out HY.out, if_pos hxy]
          have q1 : (x : Int) < (y : Int) := by omega
          go_wp2
          go_quiet (fail)
          go_wp2
          go_ret
          exact ⟨by rw [HD.out]; rfl, _, by first | rfl | rw [World.drewN_drewN, World.drewN_drewN] | rw [World.drewN_drewN]⟩
        · subst hxy
          have HD : Hid (cmpL ((bs a).drop (k + 1)) ((bs b).drop (k + 1)) = cmpL (bs a) (bs b)) := by show _ = _; rw [← hC.out, cmpL_drop HX.out HY.out, if_neg (Nat.lt_irrefl _), if_neg (Nat.lt_irrefl _)]
          have q1 : ¬ (x : Int) < (x : Int) := by omega
          go_wp2
          go_quiet (fail)
          go_wp2
          go_quiet (fail)
          go_wp2
          go_roundw
          case rel => exact ⟨k + 1, _, by omega, by go_num, HD.out, by first | rfl | rw [World.drewN_drewN, World.drewN_drewN] | rw [World.drewN_drewN]⟩
          case measure => simp [intOf]; omega
        · have HD : Hid (cmpL (bs a) (bs b) = 1) := by show _ = _; rw [← hC.out, cmpL_drop HX.out HY.out, if_neg (by omega), if_pos hxy]
          have q1 : ¬ (x : Int) < (y : Int) := by omega
          have q2 : (y : Int) < (x : Int) := by omega
          go_wp2
          go_quiet (fail)
          go_wp2
          go_quiet (fail)
          go_wp2
          go_ret
          exact ⟨by rw [HD.out]; rfl, _, by first | rfl | rw [World.drewN_drewN, World.drewN_drewN] | rw [World.drewN_drewN]⟩
      · rcases Nat.lt_trichotomy a.size b.size with hs | hs | hs
        · have HD : Hid (cmpL (bs a) (bs b) = -1) := by show _ = _; rw [← hC.out, cmpL_left (by rw [LA.out]; omega) (by rw [LB.out]; omega)]
          have q1 : (a.size : Int) < (b.size : Int) := by omega
          go_wp2
          go_ret
          exact ⟨by rw [HD.out]; rfl, _, by first | rfl | rw [World.drewN_drewN, World.drewN_drewN] | rw [World.drewN_drewN]⟩
        · have HD : Hid (cmpL (bs a) (bs b) = 0) := by show _ = _; rw [← hC.out, cmpL_both (by rw [LA.out]; omega) (by rw [LB.out]; omega)]
          have q1 : ¬ (a.size : Int) < (b.size : Int) := by omega
          have q2 : ¬ (b.size : Int) < (a.size : Int) := by omega
          go_wp2
          go_ret
          exact ⟨by rw [HD.out]; rfl, _, by first | rfl | rw [World.drewN_drewN, World.drewN_drewN] | rw [World.drewN_drewN]⟩
        · have HD : Hid (cmpL (bs a) (bs b) = 1) := by show _ = _; rw [← hC.out, cmpL_right (by rw [LA.out]; omega) (by rw [LB.out]; omega)]
          have q1 : ¬ (a.size : Int) < (b.size : Int) := by omega
          have q2 : (b.size : Int) < (a.size : Int) := by omega
          go_wp2
          go_ret
          exact ⟨by rw [HD.out]; rfl, _, by first | rfl | rw [World.drewN_drewN, World.drewN_drewN] | rw [World.drewN_drewN]⟩

theorem law_match (a b : ByteArray) (w : World) (ha : a.size ≤ maxLen) (hb : b.size ≤ maxLen) :
    Calls Try.prog 3 #[.string a, .string b] w fun e w' => e = .returned (.bool true) ∧ Below w.heap.size w w' := by
  by_cases hG : a.size ≤ 524288 ∧ b.size ≤ 524288
  · obtain ⟨sa, sb⟩ := hG
    go_enter Try.func3, Try.ntmps3
    go_wp2_with (go_at_call 13; go_in)
    refine (zcmp_c a b w (by omega) (by omega)).mono ?_; rintro e w' ⟨rfl, rfl⟩
    go_wp2_with fail
    refine (byteCmp_c a b _ (by omega) (by omega)).mono ?_; rintro e w' ⟨rfl, q, rfl⟩
    go_wp2_with fail
    go_ret
    exact ⟨rfl, below_drewN (Below.refl _ _) _⟩
  · have hG' : 524288 < a.size ∨ 524288 < b.size := by omega
    clear hG
    go_enter Try.func3, Try.ntmps3
    go_wp2_with (go_at_call 13; go_in)
    all_goals (go_ret; exact ⟨rfl, Below.refl _ _⟩)

theorem law_anti (a b : ByteArray) (w : World) (ha : a.size ≤ maxLen) (hb : b.size ≤ maxLen) :
    Calls Try.prog 6 #[.string a, .string b] w fun e w' => e = .returned (.bool true) ∧ Below w.heap.size w w' := by
  by_cases hG : a.size ≤ 524288 ∧ b.size ≤ 524288
  · obtain ⟨sa, sb⟩ := hG
    have H0 := Lib.hid (cmpL_self (bs a))
    have H1 := Lib.hid (cmpL_swap (bs a) (bs b))
    have H3 : Hid ((cmpL (bs a) (bs b) = 0 ∧ a = b) ∨ ((cmpL (bs a) (bs b) = -1 ∨ cmpL (bs a) (bs b) = 1) ∧ a ≠ b)) := by
      by_cases e : a = b
      · subst e
        exact .inl ⟨cmpL_self _, rfl⟩
      · refine .inr ⟨?_, e⟩
        rcases cmpL_three (bs a) (bs b) with h | h | h
        · exact .inl h
        · exact absurd (bs_inj (cmpL_zero _ _ h)) e
        · exact .inr h
    have K : ∀ (X Y : Int), (X = cmpL (bs a) (bs b)) → Y = cmpL (bs b) (bs a) → (X = 0 ∧ Y = 0 ∧ a = b) ∨ (X = -1 ∧ Y = 1 ∧ a ≠ b) ∨ (X = 1 ∧ Y = -1 ∧ a ≠ b) := by
      intro X Y hX hY
      rw [H1.out] at hY
      rcases H3.out with ⟨h, e⟩ | ⟨h | h, e⟩
      · exact .inl ⟨by omega, by omega, e⟩
      · exact .inr (.inl ⟨by omega, by omega, e⟩)
      · exact .inr (.inr ⟨by omega, by omega, e⟩)
    have HK := Lib.hid K
    clear K
    go_enter Try.func6, Try.ntmps6
    go_wp2_with (go_at_call 24; go_in)
    refine (zcmp_c a b w (by omega) (by omega)).mono ?_; rintro e w' ⟨rfl, rfl⟩
    go_wp2_with fail
    refine (zcmp_c b a w (by omega) (by omega)).mono ?_; rintro e w' ⟨rfl, rfl⟩
    generalize hX : cmpL (bs a) (bs b) = X at *
    generalize hY : cmpL (bs b) (bs a) = Y at *
    rcases HK.out X Y rfl rfl with ⟨rfl, rfl, e⟩ | ⟨rfl, rfl, e⟩ | ⟨rfl, rfl, e⟩
    · subst e
      clear hX hY HK H1 H3
      go_wp2_with fail
      refine (zcmp_c a a w (by omega) (by omega)).mono ?_; rintro e' w' ⟨rfl, rfl⟩
      rw [H0.out]
      go_wp2_with fail
      go_ret
      exact ⟨rfl, Below.refl _ _⟩
    all_goals
      clear hX hY HK H1 H3
      have hne := str_ne e
      go_wp2_with fail
      refine (zcmp_c a a w (by omega) (by omega)).mono ?_; rintro e' w' ⟨rfl, rfl⟩
      rw [H0.out]
      go_wp2_with fail
      go_ret
      exact ⟨rfl, Below.refl _ _⟩
  · have hG' : 524288 < a.size ∨ 524288 < b.size := by omega
    clear hG
    go_enter Try.func6, Try.ntmps6
    go_wp2_with (go_at_call 24; go_in)
    all_goals (go_ret; exact ⟨rfl, Below.refl _ _⟩)

theorem law_trans (a b c : ByteArray) (w : World) (ha : a.size ≤ maxLen) (hb : b.size ≤ maxLen) (hc : c.size ≤ maxLen) :
    Calls Try.prog 8 #[.string a, .string b, .string c] w fun e w' => e = .returned (.bool true) ∧ Below w.heap.size w w' := by
  by_cases hG : a.size ≤ 262144 ∧ b.size ≤ 262144 ∧ c.size ≤ 262144
  · obtain ⟨sa, sb, sc⟩ := hG
    have K : Hid (∀ X Y Z : Int, X = cmpL (bs a) (bs b) → Y = cmpL (bs b) (bs c) → Z = cmpL (bs a) (bs c) → (X = -1 ∨ X = 0 ∨ X = 1) ∧ (Y = -1 ∨ Y = 0 ∨ Y = 1) ∧ (Z = -1 ∨ Z = 0 ∨ Z = 1) ∧ (X ≤ 0 → Y ≤ 0 → Z ≤ 0) ∧ (X < 0 → Y ≤ 0 → Z < 0) ∧ (X ≤ 0 → Y < 0 → Z < 0)) := by
      rintro X Y Z rfl rfl rfl
      exact ⟨cmpL_three _ _, cmpL_three _ _, cmpL_three _ _, cmpL_trans _ _ _⟩
    go_enter Try.func8, Try.ntmps8
    go_wp2_with (go_at_call 26; go_in)
    refine (zcmp_c a b w (by omega) (by omega)).mono ?_; rintro e w' ⟨rfl, rfl⟩
    go_wp2_with fail
    refine (zcmp_c b c w (by omega) (by omega)).mono ?_; rintro e w' ⟨rfl, rfl⟩
    go_wp2_with fail
    refine (zcmp_c a c w (by omega) (by omega)).mono ?_; rintro e w' ⟨rfl, rfl⟩
    generalize hX : cmpL (bs a) (bs b) = X at *
    generalize hY : cmpL (bs b) (bs c) = Y at *
    generalize hZ : cmpL (bs a) (bs c) = Z at *
    obtain ⟨t1, t2, t3, t4, t5, t6⟩ := K.out X Y Z rfl rfl rfl
    clear hX hY hZ K
    rcases t1 with rfl | rfl | rfl
    all_goals (rcases t2 with rfl | rfl | rfl)
    all_goals (rcases t3 with rfl | rfl | rfl)
    all_goals first
      | (exfalso; omega)
      | (clear t4 t5 t6
         go_wp2_with fail
         go_ret
         exact ⟨rfl, Below.refl _ _⟩)
  · have hG' : 262144 < a.size ∨ 262144 < b.size ∨ 262144 < c.size := by omega
    clear hG
    go_enter Try.func8, Try.ntmps8
    go_wp2_with (go_at_call 26; go_in)
    all_goals (go_ret; exact ⟨rfl, Below.refl _ _⟩)
end Go.Proofs.Ytmlhjgledpglhaa
