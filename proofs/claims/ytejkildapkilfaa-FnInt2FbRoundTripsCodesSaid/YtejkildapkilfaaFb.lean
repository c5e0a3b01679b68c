/-
  The walks through zzFbDecode and int2Fb, and through the two laws on floating-point-byte codes.
-/
import Derived.Test.YtejkildapkilfaaRows
import Derived.Test.YtejkildapkilfaaFbPlain
import Derived.Test.YtejkildapkilfaaBits
import Derived.Test.YtejkildapkilfaaBase
import Derived.Outline
namespace Go.Proofs.Ytejkildapkilfaa
open Go.RowKit
set_option linter.unusedVariables false

theorem decode_c (c : Nat) (hc : c < 496) (w : World) : Calls Try.prog 12 #[.int .i64 c] w fun e w' => e = .returned (.int .u64 (dec c)) ∧ w = w' := by
  have e7 := i64_and_7 c
  have hb := dec_bound hc
  by_cases h8 : c < 8
  · have hd : dec c = c := by unfold dec; rw [if_pos (by omega)]; omega
    have h0 : ((c : Int) / 8 == 0) = true := by simp; omega
    have HD := Lib.hid hd
    clear hd hb
    go_enter Try.func12, Try.ntmps12
    go_wp2
    go_ret
    exact ⟨ret_int (by rw [HD.out]; omega), rfl⟩
  · have hd : ((dec c : Nat) : Int) = ((c : Int) % 8 + 8) * 2 ^ (c / 8 - 1) := by
      unfold dec; rw [if_neg (by omega)]; simp
    have h0 : ((c : Int) / 8 == 0) = false := by simp; omega
    have HD := Lib.hid hd
    have HB := Lib.hid hb
    clear hd hb
    go_enter Try.func12, Try.ntmps12
    go_wp2
    go_ret
    exact ⟨ret_int (by rw [← HD.out, IntWalk.u64_in _ (by have := HB.out; omega)]), rfl⟩

def Out (v : Nat) (w : World) (e : Ending) (w' : World) : Prop := ∃ c : Nat, e = .returned (.int .i64 c) ∧ Least c v ∧ w = w'

theorem int2Fb_c (v : Nat) (hv : v ≤ 9223372036854775806) (w : World) : Calls Try.prog 31 #[.int .i64 v] w (Out v w) := by
  have HV := Lib.hid hv
  go_enter Try.func31, Try.ntmps31
  go_wp2
  go_loop [3, 4] (fun e x => ∃ e' x' : Nat, e = .int .i64 e' ∧ x = .int .i64 x' ∧ x' ≤ v ∧ e' ≤ 60 ∧ Hid (Inv v x' e')) (fun _ x => (intOf x).toNat)
  case atStart => exact ⟨0, v, rfl, rfl, Nat.le_refl _, by omega, Inv.start v⟩
  case round =>
    obtain ⟨e, x, rfl, rfl, hxv, he, hI⟩ := hrel
    by_cases h16 : 16 ≤ x
    · have hS : Hid (Inv v ((x + 1) / 2) (e + 1)) := hI.out.step h16
      have he' : e + 1 ≤ 60 := hS.out.e_le HV.out
      go_wp2
      go_round
      case rel => exact ⟨e + 1, (x + 1) / 2, by go_num, by go_num, by omega, he', hS⟩
      case measure => simp [intOf]; omega
    · by_cases h8 : x < 8
      · have hL : Hid (Least x v) := hI.out.small h8
        go_wp2
        go_ret
        exact ⟨x, rfl, hL.out, rfl⟩
      · have hL : Hid (Least ((e + 1) * 8 + (x - 8)) v) := hI.out.great (by omega) (by omega)
        have eo := i64_or_8 ((e : Int) + 1) ((x : Int) - 8) (by omega) (by omega) (by omega) (by omega)
        go_wp2
        go_ret
        exact ⟨_, ret_int (by omega), hL.out, rfl⟩

theorem zzint2Fb_c (v : Nat) (hv : v ≤ 9223372036854775806) (w : World) : Calls Try.prog 13 #[.int .i64 v] w (Out v w) := by
  go_enter Try.func13, Try.ntmps13
  go_wp2_with fail
  refine (int2Fb_c v hv _).mono ?_
  rintro e w' ⟨c, rfl, hc, rfl⟩
  have HC := Lib.hid hc
  clear hc
  go_wp2_with fail
  go_ret
  exact ⟨c, rfl, HC.out, rfl⟩

theorem law_round (c : Int) (w : World) (hc : -9223372036854775808 ≤ c ∧ c ≤ 9223372036854775807) : Calls Try.prog 3 #[.int .i64 c] w fun e w' => e = .returned (.bool true) ∧ Below w.heap.size w w' := by
  rcases (show c < 0 ∨ 496 ≤ c ∨ (0 ≤ c ∧ c < 496) by omega) with h | h | ⟨h0, h1⟩
  · go_enter Try.func3, Try.ntmps3
    go_wp2
    go_ret
    exact ⟨rfl, Below.refl _ _⟩
  · go_enter Try.func3, Try.ntmps3
    go_wp2
    go_ret
    exact ⟨rfl, Below.refl _ _⟩
  · obtain ⟨n, rfl⟩ := Int.eq_ofNat_of_zero_le h0
    have hn : n < 496 := by omega
    clear hc h0 h1
    obtain ⟨D, hD⟩ : ∃ D : Nat, dec n = D := ⟨_, rfl⟩
    have HD : Hid (∀ _ : True, dec n = D) := fun _ => hD
    clear hD
    go_enter Try.func3, Try.ntmps3
    go_wp2_with fail
    refine (decode_c n hn _).mono ?_; rw [(HD.out trivial)]; rintro e w' ⟨rfl, rfl⟩
    go_wp2_with fail
    · go_ret
      exact ⟨rfl, Below.refl _ _⟩
    · have hd : (D : Int) ≤ 9223372036854775806 := by assumption
      refine (zzint2Fb_c D (by omega) _).mono ?_; rintro e w' ⟨c, rfl, hL, rfl⟩
      rw [← (HD.out trivial)] at hL
      obtain rfl := hL.unique (Least.self n)
      clear hL
      go_wp2_with fail
      go_ret
      exact ⟨rfl, Below.refl _ _⟩

set_option maxRecDepth 100000 in
theorem law_least (v : Int) (w : World) (hv : -9223372036854775808 ≤ v ∧ v ≤ 9223372036854775807) : Calls Try.prog 4 #[.int .i64 v] w fun e w' => e = .returned (.bool true) ∧ Below w.heap.size w w' := by
  rcases (show v < 0 ∨ 9223372036854775806 < v ∨ (0 ≤ v ∧ v ≤ 9223372036854775806) by omega) with h | h | ⟨h0, h1⟩
  · go_enter Try.func4, Try.ntmps4
    go_wp2
    go_ret
    exact ⟨rfl, Below.refl _ _⟩
  · go_enter Try.func4, Try.ntmps4
    go_wp2
    go_ret
    exact ⟨rfl, Below.refl _ _⟩
  · obtain ⟨n, rfl⟩ := Int.eq_ofNat_of_zero_le h0
    have HN : Hid (n ≤ 9223372036854775806) := by show n ≤ 9223372036854775806; omega
    have hb1 : ((n : Int) < 0) = False := by simp
    have hb2 : ((9223372036854775806 : Int) < (n : Int)) = False := by simp; omega
    have hw : IntKind.u64.wrap (n : Int) = (n : Int) := IntWalk.u64_in _ (by omega)
    clear hv h0 h1
    go_enter Try.func4, Try.ntmps4
    go_wp2_with fail
    clear hb1 hb2
    go_loop [3, 4] (fun wa c => ∃ k : Nat, k ≤ 489 ∧ c = .int .i64 k ∧ wa = .int .i64 (-1) ∧ Hid (∀ c', c' < k → dec c' < n)) (fun _ c => 496 - (intOf c).toNat)
    case atStart => exact ⟨0, by omega, rfl, rfl, fun c' h => by omega⟩
    case round =>
      obtain ⟨k, hk, rfl, rfl, hall⟩ := hrel
      obtain ⟨D, hD⟩ : ∃ D : Nat, dec k = D := ⟨_, rfl⟩
      have HD : Hid (∀ _ : True, dec k = D) := fun _ => hD
      clear hD
      by_cases hge : n ≤ D
      · have hL : Hid (Least k n) := ⟨by rw [(HD.out trivial)]; omega, hall.out⟩
        have hk488 := hL.out.le_488 HN.out
        go_wp2_with fail
        refine (decode_c k (by omega) _).mono ?_; rw [(HD.out trivial)]; rintro e w' ⟨rfl, rfl⟩
        go_wp2_with fail
        refine (zzint2Fb_c n HN.out _).mono ?_; rintro e w' ⟨c, rfl, hL', rfl⟩
        obtain rfl := hL'.unique hL.out
        clear hL'
        go_wp2_with fail
        go_ret
        exact ⟨rfl, Below.refl _ _⟩
      · have hk9 : k < 489 := by
          rcases Nat.lt_or_ge k 488 with h | h
          · omega
          · rcases Nat.lt_or_ge k 489 with h' | h'
            · exact h'
            · have h2 := dec_lt (show 488 < k by omega)
              have h3 := (HD.out trivial)
              have h4 := HN.out
              rw [dec_488, h3] at h2
              omega
        go_wp2_with fail
        refine (decode_c k (by omega) _).mono ?_; rw [(HD.out trivial)]; rintro e w' ⟨rfl, rfl⟩
        go_wp2_with fail
        go_round
        case rel => exact ⟨k + 1, by omega, by go_num, rfl, fun c' h => by
          rcases Nat.lt_succ_iff_lt_or_eq.1 h with h | h
          · exact hall.out c' h
          · subst h; have h3 := (HD.out trivial); omega⟩
        case measure => simp [intOf]; omega
end Go.Proofs.Ytejkildapkilfaa
