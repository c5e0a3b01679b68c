/-
  Plain arithmetic: masks and shifts of the model's integers as quotients and remainders; it speaks of no program.
-/
import Derived.WalkKit
import Derived.Laws.BitsAllLaws
namespace Go.Proofs.YtofbdaicahngfaaFmt
open Go.RowKit

theorem nat_and_low (n k : Nat) : n &&& (2 ^ k - 1) = n % 2 ^ k := Nat.and_two_pow_sub_one_eq_mod n k

theorem nat_and_high (n k m : Nat) (h : n < 2 ^ (k + m)) : n &&& ((2 ^ m - 1) * 2 ^ k) = n / 2 ^ k * 2 ^ k := by
  apply Nat.eq_of_testBit_eq
  intro i
  rw [Nat.testBit_and, Nat.mul_comm (2 ^ m - 1), Nat.mul_comm (n / 2 ^ k), Nat.testBit_two_pow_mul, Nat.testBit_two_pow_mul, Nat.testBit_two_pow_sub_one, Nat.testBit_div_two_pow]
  by_cases hi : k ≤ i
  · have e' : i - k + k = i := by omega
    by_cases hm : i - k < m
    · simp [hi, hm, e']
    · have hb : n.testBit i = false := Nat.testBit_lt_two_pow (Nat.lt_of_lt_of_le h (Nat.pow_le_pow_right (by decide) (by omega)))
      simp [hi, hm, e', hb]
  · simp [hi]

theorem nat_or_add (a b k : Nat) (h : b < 2 ^ k) : a * 2 ^ k ||| b = a * 2 ^ k + b := by
  rw [Nat.mul_comm]
  exact (Nat.two_pow_add_eq_or_of_lt h a).symm

theorem ofInt64_toNat (x : Int) : ((BitVec.ofInt 64 x).toNat : Int) = x % 18446744073709551616 := by
  rw [BitVec.toNat_ofInt]
  omega

/-- x & (2^k - 1) at int, of whatever sign. -/
theorem i64_and_low (x : Int) (k : Nat) (hk : k < 63) : bits .and .i64 x ((2 ^ k - 1 : Nat) : Int) = x % ((2 ^ k : Nat) : Int) := by
  have hp : 2 ^ k < 2 ^ 63 := Nat.pow_lt_pow_right (by decide) hk
  have hd : (2 ^ k) ∣ 2 ^ 64 := Nat.pow_dvd_pow 2 (by omega)
  have hpos : 0 < 2 ^ k := Nat.two_pow_pos k
  show IntKind.i64.wrap ((BitVec.ofInt 64 x &&& BitVec.ofInt 64 ((2 ^ k - 1 : Nat) : Int)).toNat : Int) = _
  have e1 : (BitVec.ofInt 64 ((2 ^ k - 1 : Nat) : Int)).toNat = 2 ^ k - 1 := by
    rw [BitVec.ofInt_natCast, BitVec.toNat_ofNat]; exact Nat.mod_eq_of_lt (by omega)
  rw [BitVec.toNat_and, e1, nat_and_low]
  have e2 : (((BitVec.ofInt 64 x).toNat % 2 ^ k : Nat) : Int) = x % ((2 ^ k : Nat) : Int) := by
    rw [Int.natCast_emod, ofInt64_toNat]
    have hd' : ((2 ^ k : Nat) : Int) ∣ ((2 ^ 64 : Nat) : Int) := Int.natCast_dvd_natCast.2 hd
    exact Int.emod_emod_of_dvd x hd'
  rw [e2]
  have h0 : 0 ≤ x % ((2 ^ k : Nat) : Int) := Int.emod_nonneg _ (by omega)
  have h1 : x % ((2 ^ k : Nat) : Int) < ((2 ^ k : Nat) : Int) := Int.emod_lt_of_pos _ (by omega)
  rw [IntKind.wrap_i64]
  omega

theorem i64_and_262143 (x : Int) : bits .and .i64 x 262143 = x % 262144 := i64_and_low x 18 (by decide)
theorem i64_and_511 (x : Int) : bits .and .i64 x 511 = x % 512 := i64_and_low x 9 (by decide)
theorem i64_and_255 (x : Int) : bits .and .i64 x 255 = x % 256 := i64_and_low x 8 (by decide)
theorem i64_and_7 (x : Int) : bits .and .i64 x 7 = x % 8 := i64_and_low x 3 (by decide)

theorem u32_and_262143 (x : Int) (h0 : 0 ≤ x) (h1 : x ≤ 4294967295) : bits .and .u32 x 262143 = x % 262144 := by
  obtain ⟨n, rfl⟩ := Int.eq_ofNat_of_zero_le h0
  rw [show (262143 : Int) = ((262143 : Nat) : Int) from rfl, u32_and_nat n 262143 (by omega) (by decide), show n &&& 262143 = n % 262144 from nat_and_low n 18]
  omega
theorem u32_and_511 (x : Int) (h0 : 0 ≤ x) (h1 : x ≤ 4294967295) : bits .and .u32 x 511 = x % 512 := by
  obtain ⟨n, rfl⟩ := Int.eq_ofNat_of_zero_le h0
  rw [show (511 : Int) = ((511 : Nat) : Int) from rfl, u32_and_nat n 511 (by omega) (by decide), show n &&& 511 = n % 512 from nat_and_low n 9]
  omega
theorem u32_and_high18 (x : Int) (h0 : 0 ≤ x) (h1 : x ≤ 4294967295) : bits .and .u32 x 4294705152 = x / 262144 * 262144 := by
  obtain ⟨n, rfl⟩ := Int.eq_ofNat_of_zero_le h0
  rw [show (4294705152 : Int) = ((4294705152 : Nat) : Int) from rfl, u32_and_nat n 4294705152 (by omega) (by decide), show n &&& 4294705152 = n / 262144 * 262144 from nat_and_high n 18 14 (by omega)]
  omega
theorem u32_and_high9 (x : Int) (h0 : 0 ≤ x) (h1 : x ≤ 4294967295) : bits .and .u32 x 4294966784 = x / 512 * 512 := by
  obtain ⟨n, rfl⟩ := Int.eq_ofNat_of_zero_le h0
  rw [show (4294966784 : Int) = ((4294966784 : Nat) : Int) from rfl, u32_and_nat n 4294966784 (by omega) (by decide), show n &&& 4294966784 = n / 512 * 512 from nat_and_high n 9 23 (by omega)]
  omega
theorem u32_and_c (x : Int) (h0 : 0 ≤ x) (h1 : x ≤ 4294967295) : bits .and .u32 x 4294705663 = x / 262144 * 262144 + x % 512 := by
  obtain ⟨n, rfl⟩ := Int.eq_ofNat_of_zero_le h0
  rw [show (4294705663 : Int) = ((4294705663 : Nat) : Int) from rfl, u32_and_nat n 4294705663 (by omega) (by decide),
    show n &&& 4294705663 = n / 262144 * 262144 + n % 512 by
      rw [show 4294705663 = 4294705152 ||| 511 from by decide, Nat.and_or_distrib_left, show n &&& 4294705152 = n / 262144 * 262144 from nat_and_high n 18 14 (by omega), show n &&& 511 = n % 512 from nat_and_low n 9]
      exact nat_or_add _ _ 18 (by omega)]
  omega

theorem ofInt_i64 (a : Nat) (ha : a < 9223372036854775808) : (BitVec.ofInt 64 (a : Int)).toNat = a := by
  rw [BitVec.ofInt_natCast, BitVec.toNat_ofNat]; exact Nat.mod_eq_of_lt (by omega)
theorem i64_or_nat (a b : Nat) (ha : a < 9223372036854775808) (hb : b < 9223372036854775808) : bits .or .i64 (a : Int) (b : Int) = ((a ||| b : Nat) : Int) := by
  have hx : a ||| b < 2 ^ 63 := Nat.or_lt_two_pow (by omega) (by omega)
  show IntKind.i64.wrap ((BitVec.ofInt 64 (a : Int) ||| BitVec.ofInt 64 (b : Int)).toNat : Int) = _
  rw [BitVec.toNat_or, ofInt_i64 a ha, ofInt_i64 b hb, IntKind.wrap_i64]
  omega
/-- a * 8 | b, b below 8. -/
theorem i64_or_8 (a b : Int) (h0 : 0 ≤ a) (h1 : a < 1000000) (h2 : 0 ≤ b) (h3 : b < 8) : bits .or .i64 (a * 8) b = a * 8 + b := by
  obtain ⟨m, rfl⟩ := Int.eq_ofNat_of_zero_le h0
  obtain ⟨n, rfl⟩ := Int.eq_ofNat_of_zero_le h2
  rw [show (m : Int) * 8 = ((m * 8 : Nat) : Int) by omega, i64_or_nat _ n (by omega) (by omega), show m * 8 ||| n = m * 8 + n from nat_or_add m n 3 (by omega)]
  omega
/-- a * 2^18 | b, b below 2^18. -/
theorem u32_or_18 (a b : Int) (h0 : 0 ≤ a) (h1 : a < 16384) (h2 : 0 ≤ b) (h3 : b < 262144) : bits .or .u32 (a * 262144) b = a * 262144 + b := by
  obtain ⟨m, rfl⟩ := Int.eq_ofNat_of_zero_le h0
  obtain ⟨n, rfl⟩ := Int.eq_ofNat_of_zero_le h2
  rw [show (m : Int) * 262144 = ((m * 262144 : Nat) : Int) by omega, u32_or_nat _ n (by omega) (by omega), show m * 262144 ||| n = m * 262144 + n from nat_or_add m n 18 (by omega)]
  omega
theorem u32_or_9 (a b : Int) (h0 : 0 ≤ a) (h1 : a < 8388608) (h2 : 0 ≤ b) (h3 : b < 512) : bits .or .u32 (a * 512) b = a * 512 + b := by
  obtain ⟨m, rfl⟩ := Int.eq_ofNat_of_zero_le h0
  obtain ⟨n, rfl⟩ := Int.eq_ofNat_of_zero_le h2
  rw [show (m : Int) * 512 = ((m * 512 : Nat) : Int) by omega, u32_or_nat _ n (by omega) (by omega), show m * 512 ||| n = m * 512 + n from nat_or_add m n 9 (by omega)]
  omega
theorem u32_or_c (a b c : Int) (h0 : 0 ≤ a) (h1 : a < 16384) (h2 : 0 ≤ b) (h3 : b < 512) (h4 : 0 ≤ c) (h5 : c < 512) : bits .or .u32 (a * 262144 + b) (c * 512) = a * 262144 + c * 512 + b := by
  obtain ⟨l, rfl⟩ := Int.eq_ofNat_of_zero_le h0
  obtain ⟨m, rfl⟩ := Int.eq_ofNat_of_zero_le h2
  obtain ⟨n, rfl⟩ := Int.eq_ofNat_of_zero_le h4
  rw [show (l : Int) * 262144 + (m : Int) = ((l * 262144 + m : Nat) : Int) by omega, show (n : Int) * 512 = ((n * 512 : Nat) : Int) by omega, u32_or_nat _ _ (by omega) (by omega),
    show l * 262144 + m ||| n * 512 = l * 262144 + (n * 512 + m) by
      rw [← show l * 262144 ||| m = l * 262144 + m from nat_or_add l m 18 (by omega), Nat.or_assoc, Nat.or_comm m, show n * 512 ||| m = n * 512 + m from nat_or_add n m 9 (by omega)]
      exact nat_or_add l _ 18 (by omega)]
  omega
end Go.Proofs.YtofbdaicahngfaaFmt
