/-
  Plain arithmetic on floating-point-byte codes: the value of a code, its order, the least code at or above a number. It speaks of no program.
-/
import Derived.WalkKit
namespace Go.Proofs.Ytejkildapkilfaa

/-- The value of a floating-point-byte code eeeeexxx. -/
def dec (c : Nat) : Nat := if c / 8 = 0 then c % 8 else (c % 8 + 8) * 2 ^ (c / 8 - 1)

theorem dec_step (c : Nat) : dec c < dec (c + 1) := by
  unfold dec
  by_cases h0 : c / 8 = 0
  · rw [if_pos h0]
    by_cases h7 : c = 7
    · subst h7; decide
    · have : (c + 1) / 8 = 0 := by omega
      rw [if_pos this]; omega
  · rw [if_neg h0, if_neg (by omega)]
    by_cases h7 : c % 8 = 7
    · have e1 : (c + 1) / 8 - 1 = (c / 8 - 1) + 1 := by omega
      have e2 : (c + 1) % 8 = 0 := by omega
      rw [e1, e2, h7, Nat.pow_succ]
      have := Nat.two_pow_pos (c / 8 - 1)
      omega
    · have e1 : (c + 1) / 8 = c / 8 := by omega
      have e2 : (c + 1) % 8 = c % 8 + 1 := by omega
      rw [e1, e2]
      exact Nat.mul_lt_mul_of_pos_right (by omega) (Nat.two_pow_pos _)

theorem dec_lt {a b : Nat} (h : a < b) : dec a < dec b := by
  induction b with
  | zero => omega
  | succ b ih =>
    rcases Nat.lt_succ_iff_lt_or_eq.1 h with h | h
    · exact Nat.lt_trans (ih h) (dec_step b)
    · subst h; exact dec_step a

theorem dec_inj {a b : Nat} (h : dec a = dec b) : a = b := by
  rcases Nat.lt_trichotomy a b with h' | h' | h'
  · have := dec_lt h'; omega
  · exact h'
  · have := dec_lt h'; omega

theorem dec_495 : dec 495 < 18446744073709551616 := by decide
theorem dec_bound {c : Nat} (h : c < 496) : dec c < 18446744073709551616 := by
  rcases Nat.lt_or_ge c 495 with h' | h'
  · exact Nat.lt_trans (dec_lt h') dec_495
  · have : c = 495 := by omega
    subst this; exact dec_495
theorem dec_488 : dec 488 = 9223372036854775808 := by decide

/-- c is the least code whose value is at least v. -/
def Least (c v : Nat) : Prop := v ≤ dec c ∧ ∀ c', c' < c → dec c' < v

theorem Least.le_488 {c v : Nat} (h : Least c v) (hv : v ≤ 9223372036854775806) : c ≤ 488 := by
  rcases Nat.lt_or_ge 488 c with h' | h'
  · have := h.2 488 h'
    rw [dec_488] at this; omega
  · exact h'
theorem Least.self (c : Nat) : Least c (dec c) := ⟨Nat.le_refl _, fun _ h => dec_lt h⟩
theorem Least.unique {a b v : Nat} (h : Least a v) (k : Least b v) : a = b := by
  rcases Nat.lt_trichotomy a b with h' | h' | h'
  · have := k.2 a h'; have := h.1; omega
  · exact h'
  · have := h.2 b h'; have := k.1; omega
theorem least_of_pred {c v : Nat} (h : v ≤ dec c) (hp : ∀ d, c = d + 1 → dec d < v) : Least c v := by
  refine ⟨h, fun c' hc => ?_⟩
  obtain ⟨d, rfl⟩ : ∃ d, c = d + 1 := ⟨c - 1, by omega⟩
  have := hp d rfl
  rcases Nat.lt_or_ge c' d with h' | h'
  · exact Nat.lt_trans (dec_lt h') this
  · have : c' = d := by omega
    subst this; assumption

/-- What holds at the head of the encoding's loop: x is v by 2^e, rounded up. -/
structure Inv (v x e : Nat) : Prop where
  up : v ≤ x * 2 ^ e
  low : 1 ≤ x → (x - 1) * 2 ^ e < v
  ge : 1 ≤ e → 8 ≤ x
  fif : ∀ d, e = d + 1 → 15 * 2 ^ d < v

theorem Inv.start (v : Nat) : Inv v v 0 := ⟨by omega, fun h => by omega, fun h => by omega, fun d h => by omega⟩

theorem Inv.step {v x e : Nat} (h : Inv v x e) (hx : 16 ≤ x) : Inv v ((x + 1) / 2) (e + 1) := by
  have hp := Nat.two_pow_pos e
  have hl := h.low (by omega)
  refine ⟨?_, fun _ => ?_, fun _ => by omega, fun d hd => ?_⟩
  · rw [Nat.pow_succ, Nat.mul_comm (2 ^ e), ← Nat.mul_assoc]
    exact Nat.le_trans h.up (Nat.mul_le_mul_right _ (by omega))
  · rw [Nat.pow_succ, Nat.mul_comm (2 ^ e), ← Nat.mul_assoc]
    exact Nat.lt_of_le_of_lt (Nat.mul_le_mul_right _ (by omega)) hl
  · obtain rfl : d = e := by omega
    exact Nat.lt_of_le_of_lt (Nat.mul_le_mul_right _ (by omega)) hl

theorem Inv.e_le {v x e : Nat} (h : Inv v x e) (hv : v ≤ 9223372036854775806) : e ≤ 60 := by
  rcases Nat.lt_or_ge 60 e with h' | h'
  · obtain ⟨d, rfl⟩ : ∃ d, e = d + 1 := ⟨e - 1, by omega⟩
    have h1 := h.fif d rfl
    have h2 : 2 ^ 60 ≤ 2 ^ d := Nat.pow_le_pow_right (by decide) (by omega)
    have h3 : (2 : Nat) ^ 60 = 1152921504606846976 := by decide
    omega
  · exact h'

theorem Inv.small {v x e : Nat} (h : Inv v x e) (hx : x < 8) : Least x v := by
  have he : e = 0 := by
    rcases Nat.eq_zero_or_pos e with h' | h'
    · exact h'
    · have := h.ge h'; omega
  subst he
  have h1 := h.up
  have h2 := h.low
  have hv : v = x := by
    rcases Nat.eq_zero_or_pos x with h' | h'
    · omega
    · have := h2 h'; omega
  subst hv
  have hd : dec v = v := by unfold dec; rw [if_pos (by omega)]; omega
  have := Least.self v
  rwa [hd] at this

theorem Inv.great {v x e : Nat} (h : Inv v x e) (h8 : 8 ≤ x) (hx : x < 16) : Least ((e + 1) * 8 + (x - 8)) v := by
  have e1 : ((e + 1) * 8 + (x - 8)) / 8 = e + 1 := by omega
  have e2 : ((e + 1) * 8 + (x - 8)) % 8 = x - 8 := by omega
  have hd : dec ((e + 1) * 8 + (x - 8)) = x * 2 ^ e := by
    unfold dec
    rw [if_neg (by omega), e1, e2, show x - 8 + 8 = x by omega]; rfl
  refine least_of_pred (by rw [hd]; exact h.up) fun d hdd => ?_
  by_cases hx8 : x = 8
  · subst hx8
    have e3 : d = e * 8 + 7 := by omega
    rcases Nat.eq_zero_or_pos e with h0 | h0
    · subst h0
      subst e3
      have := h.low (by omega)
      have : dec (0 * 8 + 7) = 7 := by decide
      omega
    · obtain ⟨k, rfl⟩ : ∃ k, e = k + 1 := ⟨e - 1, by omega⟩
      have := h.fif k rfl
      have hdec : dec d = 15 * 2 ^ k := by
        unfold dec
        rw [if_neg (by omega), show d % 8 = 7 by omega, show d / 8 - 1 = k by omega]
      omega
  · have hdec : dec d = (x - 1) * 2 ^ e := by
      unfold dec
      rw [if_neg (by omega), show d % 8 + 8 = x - 1 by omega, show d / 8 - 1 = e by omega]
    rw [hdec]
    exact h.low (by omega)
end Go.Proofs.Ytejkildapkilfaa
