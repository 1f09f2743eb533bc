/-
  Plain facts on words of 64 digits: clearing and setting places.
-/
import Derived.Laws.Bits64b
import Derived.Test.YtafeeebgleecfaaFLG
namespace FL
open Go
set_option linter.unusedVariables false
theorem andNot_nat (a b : Nat) (ha : a < 2 ^ 64) (hb : b < 2 ^ 64) : bits .andNot .u64 (a : Int) (b : Int) = ((a &&& (2 ^ 64 - 1 - b) : Nat) : Int) := by
  have hx : a &&& (2 ^ 64 - 1 - b) < 2 ^ 64 := Nat.and_lt_two_pow _ (by omega)
  have h1 : (BitVec.ofInt 64 (a : Int)).toNat = a := by
    rw [BitVec.ofInt_natCast, BitVec.toNat_ofNat]; exact Nat.mod_eq_of_lt ha
  have h2 : (BitVec.ofInt 64 (b : Int)).toNat = b := by
    rw [BitVec.ofInt_natCast, BitVec.toNat_ofNat]; exact Nat.mod_eq_of_lt hb
  show IntKind.u64.wrap ((BitVec.ofInt 64 (a : Int) &&& ~~~BitVec.ofInt 64 (b : Int)).toNat : Int) = _
  rw [BitVec.toNat_and, BitVec.toNat_not, h1, h2, IntKind.wrap_u64]
  omega
theorem clear_low (x d : Nat) (hx : x < 2 ^ 64) (hd : d ≤ 63) : x &&& (2 ^ 64 - 1 - (2 ^ d - 1)) = x - x % 2 ^ d := by
  have hp : 0 < 2 ^ d := Nat.two_pow_pos _
  have hp2 : 2 ^ d ≤ 2 ^ 63 := Nat.pow_le_pow_right (by decide) hd
  have e1 : x - x % 2 ^ d = 2 ^ d * (x / 2 ^ d) := by have := Nat.div_add_mod x (2 ^ d); omega
  have e2 : 2 ^ 64 - 1 - (2 ^ d - 1) = 2 ^ 64 - ((2 ^ d - 1) + 1) := by omega
  rw [e1, e2]
  apply Nat.eq_of_testBit_eq
  intro i
  rw [Nat.testBit_and, Nat.testBit_two_pow_sub_succ (by omega), Nat.testBit_two_pow_sub_one, Nat.testBit_two_pow_mul, Nat.testBit_div_two_pow]
  by_cases h64 : i < 64
  · by_cases hid : i < d
    · have : ¬ (i ≥ d) := by omega
      simp [hid, this]
    · have h2 : i ≥ d := by omega
      have h3 : d + (i - d) = i := by omega
      have h3' : i - d + d = i := by omega
      simp [hid, h2, h3', h64]
  · have h5 : x.testBit i = false := Nat.testBit_lt_two_pow (Nat.lt_of_lt_of_le hx (Nat.pow_le_pow_right (by decide) (by omega)))
    have h6 : i ≥ d := by omega
    have h7 : d + (i - d) = i := by omega
    have h7' : i - d + d = i := by omega
    simp [h64, h5, h6, h7']
theorem bits_clear_low (x d : Nat) (hx : x < 2 ^ 64) (hd : d ≤ 63) : bits .andNot .u64 (x : Int) ((2 ^ d - 1 : Nat) : Int) = ((x - x % 2 ^ d : Nat) : Int) := by
  have hp2 : 2 ^ d ≤ 2 ^ 63 := Nat.pow_le_pow_right (by decide) hd
  rw [andNot_nat x _ hx (by omega), clear_low x d hx hd]
theorem bits_clear_high (x : Nat) (hx : x < 2 ^ 64) : bits .andNot .u64 (x : Int) 9223372036854775808 = ((x % 2 ^ 63 : Nat) : Int) := by
  have h := andNot_nat x (2 ^ 63) hx (by decide)
  have e : 2 ^ 64 - 1 - 2 ^ 63 = 2 ^ 63 - 1 := by decide
  rw [e, Nat.and_two_pow_sub_one_eq_mod] at h
  exact h
theorem bits_sign (x : Nat) (hx : x < 2 ^ 64) : bits .and .u64 (x : Int) 9223372036854775808 = ((x - x % 2 ^ 63 : Nat) : Int) := by
  have h := bits_and_u64_nat x (2 ^ 63) hx (by decide)
  have e : x &&& 2 ^ 63 = x - x % 2 ^ 63 := clear_low x 63 hx (by decide)
  rw [e] at h
  exact h
theorem bits_exp (x : Nat) (hx : x < 2 ^ 64) : bits .and .u64 ((x : Int) / 4503599627370496) 2047 = ((x % 2 ^ 63 / 2 ^ 52 : Nat) : Int) := by
  have h := bits_and_u64_nat (x / 2 ^ 52) 2047 (by omega) (by decide)
  have e : x / 2 ^ 52 &&& 2047 = x / 2 ^ 52 % 2 ^ 11 := Nat.and_two_pow_sub_one_eq_mod _ 11
  rw [e] at h
  have e2 : x / 2 ^ 52 % 2 ^ 11 = x % 2 ^ 63 / 2 ^ 52 := by omega
  rw [e2] at h
  rw [← h]
  congr 1
theorem bits_join (a x : Nat) (ha : a < 2 ^ 63) (hx : x < 2 ^ 64) : bits .or .u64 (a : Int) ((x - x % 2 ^ 63 : Nat) : Int) = ((a + (x - x % 2 ^ 63) : Nat) : Int) := by
  rw [bits_or_u64_nat a _ (by omega) (by omega)]
  congr 1
  obtain ⟨q, hq⟩ : ∃ q, x - x % 2 ^ 63 = 2 ^ 63 * q := ⟨x / 2 ^ 63, by have := Nat.div_add_mod x (2 ^ 63); omega⟩
  rw [hq, Nat.or_comm, ← Nat.two_pow_add_eq_or_of_lt ha, Nat.add_comm]
end FL
