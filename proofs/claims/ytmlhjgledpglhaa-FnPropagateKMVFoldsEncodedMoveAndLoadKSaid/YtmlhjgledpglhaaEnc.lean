/-
  The walk through the law on PropagateKMV over one encoded MOVE or LOADK.
-/
import Derived.Test.YtmlhjgledpglhaaKmvL
namespace Go.Proofs.Ytmlhjgledpglhaa
open Go.RowKit
set_option linter.unusedVariables false

theorem u32_or_26 (a : Int) (h0 : 0 ≤ a) (h1 : a < 256) : bits .or .u32 134217728 (a * 262144) = 134217728 + a * 262144 := by
  obtain ⟨m, rfl⟩ := Int.eq_ofNat_of_zero_le h0
  have h := nat_or_add 2 (m * 262144) 26 (by omega)
  rw [show (134217728 : Int) = ((2 * 2 ^ 26 : Nat) : Int) by rfl, show (m : Int) * 262144 = ((m * 262144 : Nat) : Int) by omega, u32_or_nat _ _ (by omega) (by omega), h]
  omega

theorem made_two : madeCells #[Value.int .u32 0] 2 = #[.int .u32 0, .int .u32 0] := by
  first
    | rfl
    | (simp [madeCells]; done)
    | (apply Array.ext'; simp [madeCells]; rfl)

theorem encMove_c (a b c bx : Int) (a0 : 0 ≤ a) (a1 : a ≤ 255) (b0 : 0 ≤ b) (b1 : b ≤ 511) (c0 : 0 ≤ c) (c1 : c ≤ 511) (w : World) :
    Calls Try.prog 25 #[.bool true, .int .i64 a, .int .i64 b, .int .i64 c, .int .i64 bx] w fun e w' => e = .returned (.int .u32 (a * 262144 + c * 512 + b)) ∧ w = w' := by
  have e1 := u32_or_18 a (c * 512) (by omega) (by omega) (by omega) (by omega)
  have e2 := u32_or_9 (a * 512 + c) b (by omega) (by omega) (by omega) (by omega)
  rw [show (a * 512 + c) * 512 = a * 262144 + c * 512 by omega] at e2
  go_enter Try.func25, Try.ntmps25
  go_wp2
  go_ret
  exact ⟨rfl, rfl⟩
theorem encLoadK_c (a b c bx : Int) (a0 : 0 ≤ a) (a1 : a ≤ 255) (b0 : 0 ≤ bx) (b1 : bx ≤ 262143) (w : World) :
    Calls Try.prog 25 #[.bool false, .int .i64 a, .int .i64 b, .int .i64 c, .int .i64 bx] w fun e w' => e = .returned (.int .u32 (134217728 + a * 262144 + bx)) ∧ w = w' := by
  have e1 := u32_or_26 a (by omega) (by omega)
  have e2 := u32_or_18 (512 + a) bx (by omega) (by omega) (by omega) (by omega)
  rw [show (512 + a) * 262144 = 134217728 + a * 262144 by omega] at e2
  go_enter Try.func25, Try.ntmps25
  go_wp2
  go_ret
  exact ⟨rfl, rfl⟩

set_option maxHeartbeats 1000000 in
set_option maxRecDepth 100000 in
theorem law_encoded (prev : Int) (mv : Bool) (a b c bx top reg inc : Int) (w : World) (hprev : 0 ≤ prev ∧ prev ≤ 4294967295) (ha : -9223372036854775808 ≤ a ∧ a ≤ 9223372036854775807) (hb : -9223372036854775808 ≤ b ∧ b ≤ 9223372036854775807)
    (hc : -9223372036854775808 ≤ c ∧ c ≤ 9223372036854775807) (hbx : -9223372036854775808 ≤ bx ∧ bx ≤ 9223372036854775807) (ht : -9223372036854775808 ≤ top ∧ top ≤ 9223372036854775807) (hr : -9223372036854775808 ≤ reg ∧ reg ≤ 9223372036854775807)
    (hi : -9223372036854775808 ≤ inc ∧ inc ≤ 9223372036854775807) :
    Calls Try.prog 7 #[.int .u32 prev, .bool mv, .int .i64 a, .int .i64 b, .int .i64 c, .int .i64 bx, .int .i64 top, .int .i64 reg, .int .i64 inc] w fun e w' => e = .returned (.bool true) ∧ Below w.heap.size w w' := by
  clear hprev ha hb hc hbx ht hr hi
  by_cases hG : 0 ≤ a ∧ a ≤ 255 ∧ 0 ≤ b ∧ b ≤ 511 ∧ 0 ≤ c ∧ c ≤ 511 ∧ 0 ≤ bx ∧ bx ≤ 262143
  · obtain ⟨a0, a1, b0, b1, c0, c1, x0, x1⟩ := hG
    have hmk : ∀ W : World, (Instr.makeSlice 33 (.int .i64 2) (.int .i64 2)).run Try.prog W = .ok (.slice (some ⟨W.heap.size, 0, none⟩) 2 2) (W.alloc (.cells #[.int .u32 0, .int .u32 0] 35)) :=
      fun W => by rw [← made_two]; exact run_make_row' (P := Try.prog) 33 35 (.int .u32 0) 4 Try.underlying33 info35 rfl .i64 .i64 2 (by decide) (by decide) W
    cases mv
    · by_cases hF : top ≤ a
      · by_cases hX : bx ≤ 255
        · go_enter Try.func7, Try.ntmps7
          go_wp2_with fail
          refine (encLoadK_c a b c bx (by omega) (by omega) (by omega) (by omega) _).mono ?_; rintro e w' ⟨rfl, rfl⟩
          generalize hI : 134217728 + a * 262144 + bx = I at *
          have I0 : 0 ≤ I := by omega
          have I1 : I ≤ 4294967295 := by omega
          have FA : I / 262144 % 256 = a := by omega
          have FO : I / 67108864 = 2 := by omega
          have FX : Hid (I % 262144 = bx) := by show _ = _; omega
          have hPA : top ≤ I / 262144 % 256 := by omega
          have PA := Lib.hid hPA
          have PO := Lib.hid FO
          clear hI FA FO hPA
          go_wp2_with (go_at_call 21; go_in)
          refine (prop_k (w.heap.size + 1 + 1 + 1) (w.heap.size + 1) (w.heap.size + 1 + 1) 1 I top 0 inc _ (by omega) (by omega) ?_ ?_ ?_ (by omega) ?_ ?_ (by omega) PA.out PO.out (by rw [FX.out]; exact hX)).mono ?_
          · exact last_succ _ w.heap.size 2 1 I _ (by go_simp) (by go_simp) (by omega) (by omega) (by go_simp)
          · go_simp
          · go_simp
          · go_simp
          · go_simp
          rintro e w8 ⟨rfl, q, hw8⟩
          rw [FX.out] at hw8
          have k1 : w8.cell? ⟨(w.heap.size + 1 + 1 + 1), 2, none⟩ = some (.int .i64 1) := by rw [hw8]; go_simp
          have k2 : w8.cell? ⟨(w.heap.size + 1), 0, none⟩ = some (.int .i64 (bx + 256)) := by rw [hw8]; go_simp
          have k3 : w8.cell? ⟨(w.heap.size + 1 + 1), 0, none⟩ = some (.int .i64 (reg)) := by rw [hw8]; go_simp
          have hb8 : Hid (Below w.heap.size w w8) := by
            show Below _ _ _
            rw [hw8]
            repeat (first | exact Below.refl _ _ | refine Below.drew ?_ | refine below_drewN ?_ _ | refine Below.alloc ?_ (by simp <;> omega) _ | refine Below.setCell ?_ (by simp <;> omega) _)
          clear hw8
          go_wp2_with (go_at_call 23; go_in)
          go_ret
          exact ⟨rfl, hb8.out⟩
        · go_enter Try.func7, Try.ntmps7
          go_wp2_with fail
          refine (encLoadK_c a b c bx (by omega) (by omega) (by omega) (by omega) _).mono ?_; rintro e w' ⟨rfl, rfl⟩
          generalize hI : 134217728 + a * 262144 + bx = I at *
          have I0 : 0 ≤ I := by omega
          have I1 : I ≤ 4294967295 := by omega
          have FA : I / 262144 % 256 = a := by omega
          have FO : I / 67108864 = 2 := by omega
          have FX : Hid (I % 262144 = bx) := by show _ = _; omega
          have hNO : ¬ (top ≤ I / 262144 % 256 ∧ (I / 67108864 = 0 ∨ (I / 67108864 = 2 ∧ I % 262144 ≤ 255))) := by have := FX.out; omega
          have NO := Lib.hid hNO
          clear hI FA FO hNO
          go_wp2_with (go_at_call 21; go_in)
          refine (prop_n (w.heap.size + 1 + 1 + 1) (w.heap.size + 1) (w.heap.size + 1 + 1) I top 0 reg inc _ (by omega) (by omega) ?_ ?_ ?_ ?_ ?_ (by omega) NO.out).mono ?_
          · exact last_succ _ w.heap.size 2 1 I _ (by go_simp) (by go_simp) (by omega) (by omega) (by go_simp)
          · go_simp
          · go_simp
          · go_simp
          · go_simp
          rintro e w8 ⟨rfl, q, hw8⟩
          have k1 : w8.cell? ⟨(w.heap.size + 1 + 1 + 1), 2, none⟩ = some (.int .i64 2) := by rw [hw8]; go_simp
          have k2 : w8.cell? ⟨(w.heap.size + 1), 0, none⟩ = some (.int .i64 (reg)) := by rw [hw8]; go_simp
          have k3 : w8.cell? ⟨(w.heap.size + 1 + 1), 0, none⟩ = some (.int .i64 (wrap64 (reg + inc))) := by rw [hw8]; go_simp
          have hb8 : Hid (Below w.heap.size w w8) := by
            show Below _ _ _
            rw [hw8]
            repeat (first | exact Below.refl _ _ | refine Below.drew ?_ | refine below_drewN ?_ _ | refine Below.alloc ?_ (by simp <;> omega) _ | refine Below.setCell ?_ (by simp <;> omega) _)
          clear hw8
          go_wp2_with (go_at_call 23; go_in)
          go_ret
          exact ⟨rfl, hb8.out⟩
      · go_enter Try.func7, Try.ntmps7
        go_wp2_with fail
        refine (encLoadK_c a b c bx (by omega) (by omega) (by omega) (by omega) _).mono ?_; rintro e w' ⟨rfl, rfl⟩
        generalize hI : 134217728 + a * 262144 + bx = I at *
        have I0 : 0 ≤ I := by omega
        have I1 : I ≤ 4294967295 := by omega
        have FA : I / 262144 % 256 = a := by omega
        have FO : I / 67108864 = 2 := by omega
        have FX : Hid (I % 262144 = bx) := by show _ = _; omega
        have hNO : ¬ (top ≤ I / 262144 % 256 ∧ (I / 67108864 = 0 ∨ (I / 67108864 = 2 ∧ I % 262144 ≤ 255))) := by have := FX.out; omega
        have NO := Lib.hid hNO
        clear hI FA FO hNO
        go_wp2_with (go_at_call 21; go_in)
        refine (prop_n (w.heap.size + 1 + 1 + 1) (w.heap.size + 1) (w.heap.size + 1 + 1) I top 0 reg inc _ (by omega) (by omega) ?_ ?_ ?_ ?_ ?_ (by omega) NO.out).mono ?_
        · exact last_succ _ w.heap.size 2 1 I _ (by go_simp) (by go_simp) (by omega) (by omega) (by go_simp)
        · go_simp
        · go_simp
        · go_simp
        · go_simp
        rintro e w8 ⟨rfl, q, hw8⟩
        have k1 : w8.cell? ⟨(w.heap.size + 1 + 1 + 1), 2, none⟩ = some (.int .i64 2) := by rw [hw8]; go_simp
        have k2 : w8.cell? ⟨(w.heap.size + 1), 0, none⟩ = some (.int .i64 (reg)) := by rw [hw8]; go_simp
        have k3 : w8.cell? ⟨(w.heap.size + 1 + 1), 0, none⟩ = some (.int .i64 (wrap64 (reg + inc))) := by rw [hw8]; go_simp
        have hb8 : Hid (Below w.heap.size w w8) := by
          show Below _ _ _
          rw [hw8]
          repeat (first | exact Below.refl _ _ | refine Below.drew ?_ | refine below_drewN ?_ _ | refine Below.alloc ?_ (by simp <;> omega) _ | refine Below.setCell ?_ (by simp <;> omega) _)
        clear hw8
        go_wp2_with (go_at_call 23; go_in)
        go_ret
        exact ⟨rfl, hb8.out⟩
    · by_cases hF : top ≤ a
      · go_enter Try.func7, Try.ntmps7
        go_wp2_with fail
        refine (encMove_c a b c bx (by omega) (by omega) (by omega) (by omega) (by omega) (by omega) _).mono ?_; rintro e w' ⟨rfl, rfl⟩
        generalize hI : a * 262144 + c * 512 + b = I at *
        have I0 : 0 ≤ I := by omega
        have I1 : I ≤ 4294967295 := by omega
        have FA : I / 262144 % 256 = a := by omega
        have FO : I / 67108864 = 0 := by omega
        have FB : Hid (I % 512 = b) := by show _ = _; omega
        have hPA : top ≤ I / 262144 % 256 := by omega
        have PA := Lib.hid hPA
        have PO := Lib.hid FO
        clear hI FA FO hPA
        go_wp2_with (go_at_call 21; go_in)
        refine (prop_m (w.heap.size + 1 + 1 + 1) (w.heap.size + 1) (w.heap.size + 1 + 1) 1 I top 0 inc _ (by omega) (by omega) ?_ ?_ ?_ (by omega) ?_ ?_ (by omega) PA.out PO.out).mono ?_
        · exact last_succ _ w.heap.size 2 1 I _ (by go_simp) (by go_simp) (by omega) (by omega) (by go_simp)
        · go_simp
        · go_simp
        · go_simp
        · go_simp
        rintro e w8 ⟨rfl, q, hw8⟩
        rw [FB.out] at hw8
        have k1 : w8.cell? ⟨(w.heap.size + 1 + 1 + 1), 2, none⟩ = some (.int .i64 1) := by rw [hw8]; go_simp
        have k2 : w8.cell? ⟨(w.heap.size + 1), 0, none⟩ = some (.int .i64 (b)) := by rw [hw8]; go_simp
        have k3 : w8.cell? ⟨(w.heap.size + 1 + 1), 0, none⟩ = some (.int .i64 (reg)) := by rw [hw8]; go_simp
        have hb8 : Hid (Below w.heap.size w w8) := by
          show Below _ _ _
          rw [hw8]
          repeat (first | exact Below.refl _ _ | refine Below.drew ?_ | refine below_drewN ?_ _ | refine Below.alloc ?_ (by simp <;> omega) _ | refine Below.setCell ?_ (by simp <;> omega) _)
        clear hw8
        go_wp2_with (go_at_call 23; go_in)
        go_ret
        exact ⟨rfl, hb8.out⟩
      · go_enter Try.func7, Try.ntmps7
        go_wp2_with fail
        refine (encMove_c a b c bx (by omega) (by omega) (by omega) (by omega) (by omega) (by omega) _).mono ?_; rintro e w' ⟨rfl, rfl⟩
        generalize hI : a * 262144 + c * 512 + b = I at *
        have I0 : 0 ≤ I := by omega
        have I1 : I ≤ 4294967295 := by omega
        have FA : I / 262144 % 256 = a := by omega
        have FO : I / 67108864 = 0 := by omega
        have FB : Hid (I % 512 = b) := by show _ = _; omega
        have hNO : ¬ (top ≤ I / 262144 % 256 ∧ (I / 67108864 = 0 ∨ (I / 67108864 = 2 ∧ I % 262144 ≤ 255))) := by omega
        have NO := Lib.hid hNO
        clear hI FA FO hNO
        go_wp2_with (go_at_call 21; go_in)
        refine (prop_n (w.heap.size + 1 + 1 + 1) (w.heap.size + 1) (w.heap.size + 1 + 1) I top 0 reg inc _ (by omega) (by omega) ?_ ?_ ?_ ?_ ?_ (by omega) NO.out).mono ?_
        · exact last_succ _ w.heap.size 2 1 I _ (by go_simp) (by go_simp) (by omega) (by omega) (by go_simp)
        · go_simp
        · go_simp
        · go_simp
        · go_simp
        rintro e w8 ⟨rfl, q, hw8⟩
        have k1 : w8.cell? ⟨(w.heap.size + 1 + 1 + 1), 2, none⟩ = some (.int .i64 2) := by rw [hw8]; go_simp
        have k2 : w8.cell? ⟨(w.heap.size + 1), 0, none⟩ = some (.int .i64 (reg)) := by rw [hw8]; go_simp
        have k3 : w8.cell? ⟨(w.heap.size + 1 + 1), 0, none⟩ = some (.int .i64 (wrap64 (reg + inc))) := by rw [hw8]; go_simp
        have hb8 : Hid (Below w.heap.size w w8) := by
          show Below _ _ _
          rw [hw8]
          repeat (first | exact Below.refl _ _ | refine Below.drew ?_ | refine below_drewN ?_ _ | refine Below.alloc ?_ (by simp <;> omega) _ | refine Below.setCell ?_ (by simp <;> omega) _)
        clear hw8
        go_wp2_with (go_at_call 23; go_in)
        go_ret
        exact ⟨rfl, hb8.out⟩
  · have hG' : a < 0 ∨ 255 < a ∨ b < 0 ∨ 511 < b ∨ c < 0 ∨ 511 < c ∨ bx < 0 ∨ 262143 < bx := by omega
    clear hG
    rcases hG' with h | h | h | h | h | h | h | h
    all_goals
      go_enter Try.func7, Try.ntmps7
      go_wp2
      all_goals (go_ret; exact ⟨rfl, Below.refl _ _⟩)
end Go.Proofs.Ytmlhjgledpglhaa
