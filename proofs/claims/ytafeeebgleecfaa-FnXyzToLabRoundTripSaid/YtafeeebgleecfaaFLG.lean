/-
  Plain facts on IEEE double words, continued: the whole part, the floor, the nearest whole number, the lesser and the greater of two.
-/
import Derived.Test.YtafeeebgleecfaaFLF
namespace FL
open Ieee
set_option linter.unusedVariables false

theorem p2_neg_nat (d : Nat) (m : Rat) : m * p2 (-(d : Int)) * ((2 ^ d : Nat) : Rat) = m := by
  have h : p2 (-(d : Int)) * p2 (d : Int) = 1 := by rw [← p2_add, Int.add_left_neg, p2_zero]
  rw [p2_nat] at h
  rw [Rat.mul_assoc, h, Rat.mul_one]

/-- a word by its sign, exponent and fraction -/
theorem word_split (x : Nat) (h : x < 2 ^ 64) : x = double.word (x / 2 ^ 63 % 2 == 1) (x % 2 ^ 63) := by
  unfold Format.word
  rw [d_sw]
  rcases (by omega : x / 2 ^ 63 % 2 = 0 ∨ x / 2 ^ 63 % 2 = 1) with e | e
  · rw [e]; simp; omega
  · rw [e]; simp; omega

/-- the whole part: the fraction's places cleared -/
def truncW (x : Nat) : Nat :=
  if x % 2 ^ 63 < 1023 * 2 ^ 52 then x - x % 2 ^ 63
  else if x % 2 ^ 63 / 2 ^ 52 < 1075 then x - x % 2 ^ (1075 - x % 2 ^ 63 / 2 ^ 52) else x

theorem val_norm (neg : Bool) (k f : Nat) (hk : 1 ≤ k) (hk2 : k < 2047) (hf : f < 2 ^ 52) :
    Finite (double.word neg (k * 2 ^ 52 + f)) ∧ val (double.word neg (k * 2 ^ 52 + f)) = sg neg * (((2 ^ 52 + f : Nat) : Rat) * p2 ((k : Int) - 1075)) := by
  have h := val_rung neg (k - 1) (2 ^ 52 + f) (by omega) (.inr (by omega)) (by omega)
  have e : (k - 1) * 2 ^ 52 + (2 ^ 52 + f) = k * 2 ^ 52 + f := by omega
  rw [e] at h
  refine ⟨h.1, ?_⟩
  rw [h.2]
  congr 3
  omega

theorem val_small (x : Nat) (h : x < 2 ^ 64) (h1 : x % 2 ^ 63 < 1023 * 2 ^ 52) : val (mag x) < 1 := by
  have hm : mag x = double.word false (x % 2 ^ 63) := by unfold mag Format.word; simp
  rw [hm]
  by_cases hl : x % 2 ^ 63 < 2 ^ 52
  · have := (val_rung false 0 (x % 2 ^ 63) (by omega) (.inl rfl) (by omega)).2
    rw [Nat.zero_mul, Nat.zero_add] at this
    rw [this]
    have h2 : ((x % 2 ^ 63 : Nat) : Rat) ≤ ((2 ^ 52 : Nat) : Rat) := by exact_mod_cast (by omega : x % 2 ^ 63 ≤ 2 ^ 52)
    have h3 := Rat.mul_le_mul_of_nonneg_right h2 (Rat.le_of_lt (p2_pos ((0 : Nat) - 1074 : Int)))
    rw [← p2_nat, ← p2_add] at h3
    have h4 : p2 (((52 : Nat) : Int) + (((0 : Nat) : Int) - 1074)) ≤ p2 (-1) := p2_le (by omega)
    have h5 : p2 (-1) < 1 := by rw [← p2_zero, half_p2 0]; have := p2_pos (0 - 1); show p2 (0 - 1) < _; grind
    simp only [sg, Bool.false_eq_true, if_false]
    grind
  · obtain ⟨k, f, hkf, hf, hk⟩ : ∃ k f, x % 2 ^ 63 = k * 2 ^ 52 + f ∧ f < 2 ^ 52 ∧ 1 ≤ k := ⟨x % 2 ^ 63 / 2 ^ 52, x % 2 ^ 63 % 2 ^ 52, by omega, by omega, by omega⟩
    rw [hkf, (val_norm false k f hk (by omega) hf).2]
    have h2 : ((2 ^ 52 + f : Nat) : Rat) < ((2 ^ 53 : Nat) : Rat) := by exact_mod_cast (by omega : 2 ^ 52 + f < 2 ^ 53)
    have h3 := Rat.mul_lt_mul_of_pos_right h2 (p2_pos ((k : Int) - 1075))
    rw [← p2_nat, ← p2_add] at h3
    have h4 : p2 (((53 : Nat) : Int) + ((k : Int) - 1075)) ≤ p2 0 := p2_le (by omega)
    rw [p2_zero] at h4
    simp only [sg, Bool.false_eq_true, if_false]
    grind

theorem lin_low (q k D C f : Nat) : q * (D * (C * 2048)) + (k * (D * C) + f) = D * (q * (C * 2048) + k * C) + f := by grind
theorem mod_low (x k f d : Nat) (hd : d ≤ 52) (h : x % 2 ^ 63 = k * 2 ^ 52 + f) : x % 2 ^ d = f % 2 ^ d := by
  obtain ⟨c, hc⟩ : ∃ c, 52 = d + c := ⟨52 - d, by omega⟩
  have e52 : 2 ^ 52 = 2 ^ d * 2 ^ c := by rw [← Nat.pow_add, ← hc]
  have a : x = x / 2 ^ 63 * (2 ^ 52 * 2048) + (k * 2 ^ 52 + f) := by omega
  have b : x = 2 ^ d * (x / 2 ^ 63 * (2 ^ c * 2048) + k * 2 ^ c) + f := by
    rw [← lin_low, ← Nat.mul_assoc (2 ^ d) (2 ^ c), ← e52]; exact a
  rw [b, Nat.mul_add_mod]

/-- the whole part of a word's size -/
theorem trunc_ok (x : Nat) (h : Finite x) : Finite (truncW x) ∧ ∃ n : Nat, val (truncW x) = sg (x / 2 ^ 63 % 2 == 1) * (n : Rat) ∧ (n : Rat) ≤ val (mag x) ∧ val (mag x) < (n : Rat) + 1 ∧ ((n : Rat) = val (mag x) ∨ n < 2 ^ 52) := by
  obtain ⟨hx, hfin⟩ := h
  have hm : mag x = double.word false (x % 2 ^ 63) := by unfold mag Format.word; simp
  unfold truncW
  by_cases h1 : x % 2 ^ 63 < 1023 * 2 ^ 52
  · rw [if_pos h1]
    have e : x - x % 2 ^ 63 = double.word (x / 2 ^ 63 % 2 == 1) 0 := by
      have := word_split x hx
      unfold Format.word at *
      rw [d_sw] at *
      rcases (by omega : x / 2 ^ 63 % 2 = 0 ∨ x / 2 ^ 63 % 2 = 1) with e | e
      · rw [e]; simp; omega
      · rw [e]; simp; omega
    rw [e]
    obtain ⟨w1, w2⟩ := word_zero (x / 2 ^ 63 % 2 == 1)
    have hz : ((0 : Nat) : Rat) = 0 := rfl
    refine ⟨w1, 0, by rw [w2, hz, Rat.mul_zero], by rw [hz]; exact (mag_bounds x hx).1, ?_, .inr (by decide)⟩
    have := val_small x hx h1
    rw [hz]; grind
  · rw [if_neg h1]
    obtain ⟨k, f, hkf, hf, hk⟩ : ∃ k f, x % 2 ^ 63 = k * 2 ^ 52 + f ∧ f < 2 ^ 52 ∧ 1023 ≤ k := ⟨x % 2 ^ 63 / 2 ^ 52, x % 2 ^ 63 % 2 ^ 52, by omega, by omega, by omega⟩
    have hk2 : k < 2047 := by omega
    have hkd : x % 2 ^ 63 / 2 ^ 52 = k := by omega
    rw [hkd]
    have hsp := word_split x hx
    have hv := (val_norm false k f (by omega) hk2 hf).2
    have hvx := val_norm (x / 2 ^ 63 % 2 == 1) k f (by omega) hk2 hf
    rw [hm, hkf, hv]
    have hs1 : sg false = 1 := rfl
    rw [hs1, Rat.one_mul]
    by_cases h2 : k < 1075
    · rw [if_pos h2]
      obtain ⟨d, hd, hd1, hd2⟩ : ∃ d : Nat, 1075 - k = d ∧ 1 ≤ d ∧ d ≤ 52 := ⟨1075 - k, rfl, by omega, by omega⟩
      rw [hd]
      have hkd' : ((k : Int) - 1075) = -(d : Int) := by omega
      rw [hkd']
      obtain ⟨c, hc⟩ : ∃ c, 52 = d + c := ⟨52 - d, by omega⟩
      have hp : 0 < 2 ^ d := Nat.two_pow_pos _
      have e52 : 2 ^ 52 = 2 ^ d * 2 ^ c := by rw [← Nat.pow_add, ← hc]
      have hxd : x % 2 ^ d = f % 2 ^ d := mod_low x k f d (by omega) (by omega)
      rw [hxd]
      have hfm : f % 2 ^ d ≤ f := Nat.mod_le _ _
      have e : x - f % 2 ^ d = double.word (x / 2 ^ 63 % 2 == 1) (k * 2 ^ 52 + (f - f % 2 ^ d)) := by
        rw [hkf] at hsp
        unfold Format.word at hsp ⊢
        rw [d_sw] at hsp ⊢
        generalize f % 2 ^ d = g at *
        rcases (by omega : x / 2 ^ 63 % 2 = 0 ∨ x / 2 ^ 63 % 2 = 1) with e | e
        · rw [e] at hsp ⊢; simp at hsp ⊢; omega
        · rw [e] at hsp ⊢; simp at hsp ⊢; omega
      rw [e]
      obtain ⟨g1, g2⟩ := val_norm (x / 2 ^ 63 % 2 == 1) k (f - f % 2 ^ d) (by omega) hk2 (by omega)
      refine ⟨g1, 2 ^ c + f / 2 ^ d, ?_, ?_, ?_, .inr ?_⟩
      · rw [g2, hkd']
        congr 1
        have h3 : 2 ^ 52 + (f - f % 2 ^ d) = (2 ^ c + f / 2 ^ d) * 2 ^ d := by
          have := Nat.div_add_mod f (2 ^ d)
          rw [Nat.add_mul, e52, Nat.mul_comm (2 ^ c), Nat.mul_comm (f / 2 ^ d)]
          omega
        rw [h3, Rat.natCast_mul]
        have := p2_neg_nat d ((2 ^ c + f / 2 ^ d : Nat) : Rat)
        grind
      · have h3 : (2 ^ c + f / 2 ^ d) * 2 ^ d ≤ 2 ^ 52 + f := by
          have := Nat.div_mul_le_self f (2 ^ d)
          rw [Nat.add_mul, e52, Nat.mul_comm (2 ^ c)]
          omega
        have h4 : (((2 ^ c + f / 2 ^ d) * 2 ^ d : Nat) : Rat) ≤ ((2 ^ 52 + f : Nat) : Rat) := by exact_mod_cast h3
        have h5 := Rat.mul_le_mul_of_nonneg_right h4 (Rat.le_of_lt (p2_pos (-(d : Int))))
        rw [Rat.natCast_mul] at h5
        have := p2_neg_nat d ((2 ^ c + f / 2 ^ d : Nat) : Rat)
        grind
      · have h3 : 2 ^ 52 + f < (2 ^ c + f / 2 ^ d + 1) * 2 ^ d := by
          have := Nat.div_add_mod f (2 ^ d)
          have := Nat.mod_lt f hp
          rw [Nat.add_mul, Nat.add_mul, e52, Nat.mul_comm (2 ^ c), Nat.one_mul, Nat.mul_comm (f / 2 ^ d)]
          omega
        have h4 : ((2 ^ 52 + f : Nat) : Rat) < (((2 ^ c + f / 2 ^ d + 1) * 2 ^ d : Nat) : Rat) := by exact_mod_cast h3
        have h5 := Rat.mul_lt_mul_of_pos_right h4 (p2_pos (-(d : Int)))
        rw [Rat.natCast_mul] at h5
        have := p2_neg_nat d ((2 ^ c + f / 2 ^ d + 1 : Nat) : Rat)
        have h6 : ((2 ^ c + f / 2 ^ d + 1 : Nat) : Rat) = ((2 ^ c + f / 2 ^ d : Nat) : Rat) + 1 := by rw [Rat.natCast_add (2 ^ c + f / 2 ^ d) 1]; rfl
        grind
      · have h3 : (2 ^ c + f / 2 ^ d) * 2 ^ d < 2 ^ 52 * 2 ^ d := by
          have := Nat.div_mul_le_self f (2 ^ d)
          rw [Nat.add_mul, Nat.mul_comm (2 ^ c), ← e52]
          have h2d : 2 ≤ 2 ^ d := Nat.pow_le_pow_right (n := 2) (by decide) hd1
          have : 2 ^ 52 * 2 ≤ 2 ^ 52 * 2 ^ d := Nat.mul_le_mul_left _ h2d
          omega
        exact Nat.lt_of_mul_lt_mul_right h3
    · rw [if_neg h2]
      rw [hkf] at hsp
      rw [← hsp] at hvx
      refine ⟨hvx.1, (2 ^ 52 + f) * 2 ^ (k - 1075), ?_⟩
      have e : (((2 ^ 52 + f) * 2 ^ (k - 1075) : Nat) : Rat) = ((2 ^ 52 + f : Nat) : Rat) * p2 ((k : Int) - 1075) := by
        rw [Rat.natCast_mul, ← p2_nat]
        congr 2
        omega
      rw [e]
      refine ⟨hvx.2, Rat.le_refl, by grind, .inl rfl⟩
end FL
