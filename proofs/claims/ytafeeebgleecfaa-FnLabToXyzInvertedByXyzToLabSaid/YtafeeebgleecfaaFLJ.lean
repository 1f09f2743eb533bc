/-
  Plain facts on IEEE double words, continued: the nearest whole number; a whole number read as an integer.
-/
import Derived.Laws.FloatArith
import Derived.Test.YtafeeebgleecfaaFLH
import Derived.Test.YtafeeebgleecfaaFLI
namespace FL
open Ieee Go
set_option linter.unusedVariables false

theorem val_sg (x : Nat) (h : Finite x) : val x = sg (x / 2 ^ 63 % 2 == 1) * val (mag x) := by
  obtain ⟨hx, hfin⟩ := h
  have hm : mag x = double.word false (x % 2 ^ 63) := by unfold mag Format.word; simp
  have hw := word_lt false (x % 2 ^ 63) (by omega)
  have hs1 : sg false = 1 := rfl
  unfold val
  by_cases hl : x % 2 ^ 63 < 2 ^ 52
  · rw [read_lo x hl, hm, read_lo _ (by omega), hw.2.2, hw.2.1]
    simp only [dval]; rw [hs1]; grind
  · rw [read_hi x hl hfin, hm, read_hi _ (by omega) (by omega), hw.2.2, hw.2.1]
    simp only [dval]; rw [hs1]; grind
theorem mag_lt (x c : Nat) (h : x < 2 ^ 64) (hc : 1 ≤ c) (hc2 : c ≤ 2047) (h1 : x % 2 ^ 63 < c * 2 ^ 52) : val (mag x) < p2 ((c : Int) - 1023) := by
  have hm : mag x = double.word false (x % 2 ^ 63) := by unfold mag Format.word; simp
  rw [hm]
  have hs1 : sg false = 1 := rfl
  by_cases hl : x % 2 ^ 63 < 2 ^ 52
  · have := (val_rung false 0 (x % 2 ^ 63) (by omega) (.inl rfl) (by omega)).2
    rw [Nat.zero_mul, Nat.zero_add] at this
    rw [this]
    have h2 : ((x % 2 ^ 63 : Nat) : Rat) < ((2 ^ 52 : Nat) : Rat) := by exact_mod_cast hl
    have h3 := Rat.mul_lt_mul_of_pos_right h2 (p2_pos ((0 : Nat) - 1074 : Int))
    rw [← p2_nat, ← p2_add] at h3
    have h4 : p2 (((52 : Nat) : Int) + (((0 : Nat) : Int) - 1074)) ≤ p2 ((c : Int) - 1023) := p2_le (by omega)
    rw [hs1]
    grind
  · obtain ⟨k, f, hkf, hf, hk⟩ : ∃ k f, x % 2 ^ 63 = k * 2 ^ 52 + f ∧ f < 2 ^ 52 ∧ 1 ≤ k := ⟨x % 2 ^ 63 / 2 ^ 52, x % 2 ^ 63 % 2 ^ 52, by omega, by omega, by omega⟩
    rw [hkf, (val_norm false k f hk (by omega) hf).2]
    have h2 : ((2 ^ 52 + f : Nat) : Rat) < ((2 ^ 53 : Nat) : Rat) := by exact_mod_cast (by omega : 2 ^ 52 + f < 2 ^ 53)
    have h3 := Rat.mul_lt_mul_of_pos_right h2 (p2_pos ((k : Int) - 1075))
    rw [← p2_nat, ← p2_add] at h3
    have h4 : p2 (((53 : Nat) : Int) + ((k : Int) - 1075)) ≤ p2 ((c : Int) - 1023) := p2_le (by omega)
    rw [hs1]
    grind
theorem mag_ge (x c : Nat) (h : Finite x) (hc : 1 ≤ c) (h1 : c * 2 ^ 52 ≤ x % 2 ^ 63) : p2 ((c : Int) - 1023) ≤ val (mag x) := by
  obtain ⟨hx, hfin⟩ := h
  have hm : mag x = double.word false (x % 2 ^ 63) := by unfold mag Format.word; simp
  rw [hm]
  have hs1 : sg false = 1 := rfl
  obtain ⟨k, f, hkf, hf, hk⟩ : ∃ k f, x % 2 ^ 63 = k * 2 ^ 52 + f ∧ f < 2 ^ 52 ∧ c ≤ k := ⟨x % 2 ^ 63 / 2 ^ 52, x % 2 ^ 63 % 2 ^ 52, by omega, by omega, by omega⟩
  rw [hkf, (val_norm false k f (by omega) (by omega) hf).2]
  have h2 : ((2 ^ 52 : Nat) : Rat) ≤ ((2 ^ 52 + f : Nat) : Rat) := by exact_mod_cast (by omega : 2 ^ 52 ≤ 2 ^ 52 + f)
  have h3 := Rat.mul_le_mul_of_nonneg_right h2 (Rat.le_of_lt (p2_pos ((k : Int) - 1075)))
  rw [← p2_nat, ← p2_add] at h3
  have h4 : p2 ((c : Int) - 1023) ≤ p2 (((52 : Nat) : Int) + ((k : Int) - 1075)) := p2_le (by omega)
  rw [hs1]
  grind
theorem exp_small (x c : Nat) (h : Finite x) (hc : 1 ≤ c) (hv : val (mag x) < p2 ((c : Int) - 1023)) : x % 2 ^ 63 / 2 ^ 52 < c := by
  rcases Nat.lt_or_ge (x % 2 ^ 63 / 2 ^ 52) c with h1 | h1
  · exact h1
  · have h2 : c * 2 ^ 52 ≤ x % 2 ^ 63 := (Nat.le_div_iff_mul_le (Nat.two_pow_pos 52)).1 h1
    have h3 := mag_ge x c h hc h2
    exact absurd hv (Rat.not_lt.2 h3)
/-- the nearest whole number, halves away from zero, by the digits -/
def roundW (x : Nat) : Nat :=
  if x % 2 ^ 63 / 2 ^ 52 < 1023 then (if x % 2 ^ 63 / 2 ^ 52 = 1022 then (x - x % 2 ^ 63) + 1023 * 2 ^ 52 else x - x % 2 ^ 63)
  else if x % 2 ^ 63 / 2 ^ 52 < 1075 then (x + 2 ^ (1074 - x % 2 ^ 63 / 2 ^ 52)) - (x + 2 ^ (1074 - x % 2 ^ 63 / 2 ^ 52)) % 2 ^ (1075 - x % 2 ^ 63 / 2 ^ 52)
  else x
theorem sg_int (b : Bool) (n : Nat) : ∃ z : Int, sg b * (n : Rat) = (z : Rat) := by
  cases b
  · exact ⟨n, by simp [sg]; rfl⟩
  · exact ⟨-(n : Int), by simp only [sg, if_true]; rw [Rat.intCast_neg]; have : ((n : Int) : Rat) = (n : Rat) := rfl; grind⟩
theorem half_close (a v k : Rat) (ha : a = 1 ∨ a = -1) (h1 : 2 * k ≤ 2 * v + 1) (h2 : 2 * v ≤ 2 * k + 1) : 2 * (a * k) ≤ 2 * (a * v) + 1 ∧ 2 * (a * v) ≤ 2 * (a * k) + 1 := by
  rcases ha with rfl | rfl <;> constructor <;> grind
theorem word_or (x r : Nat) (h : x < 2 ^ 64) (hr : r < 2 ^ 63) : x - x % 2 ^ 63 + r = double.word (x / 2 ^ 63 % 2 == 1) r := by
  have := word_split x h
  unfold Format.word at *
  rw [d_sw] at *
  rcases (by omega : x / 2 ^ 63 % 2 = 0 ∨ x / 2 ^ 63 % 2 = 1) with e | e
  · rw [e]; simp; omega
  · rw [e]; simp; omega
theorem round_ok (x : Nat) (h : Finite x) (he : x % 2 ^ 63 / 2 ^ 52 < 1075) : Finite (roundW x) ∧ ∃ n : Int, val (roundW x) = n ∧ 2 * (n : Rat) ≤ 2 * val x + 1 ∧ 2 * val x ≤ 2 * (n : Rat) + 1 := by
  have hs := val_sg x h
  have hsg := sg_cases (x / 2 ^ 63 % 2 == 1)
  obtain ⟨hx, hfin⟩ := h
  have hm0 := (mag_bounds x hx).1
  unfold roundW
  by_cases h1 : x % 2 ^ 63 / 2 ^ 52 < 1023
  · rw [if_pos h1]
    by_cases h2 : x % 2 ^ 63 / 2 ^ 52 = 1022
    · rw [if_pos h2, word_or x (1023 * 2 ^ 52) hx (by decide)]
      have g := val_norm (x / 2 ^ 63 % 2 == 1) 1023 0 (by decide) (by decide) (by decide)
      have e1 : ((2 ^ 52 + 0 : Nat) : Rat) * p2 (((1023 : Nat) : Int) - 1075) = 1 := by decide +kernel
      rw [e1, Rat.mul_one] at g
      obtain ⟨z, hz⟩ := sg_int (x / 2 ^ 63 % 2 == 1) 1
      have hz' : sg (x / 2 ^ 63 % 2 == 1) = (z : Rat) := by rw [← hz]; have : ((1 : Nat) : Rat) = 1 := rfl; rw [this, Rat.mul_one]
      refine ⟨g.1, z, by rw [← hz']; exact g.2, ?_⟩
      have a1 := mag_ge x 1022 ⟨hx, hfin⟩ (by decide) (by omega)
      have a2 := mag_lt x 1023 hx (by decide) (by decide) (by omega)
      have e2 : p2 (((1022 : Nat) : Int) - 1023) = 1 / 2 := by decide +kernel
      have e3 : p2 (((1023 : Nat) : Int) - 1023) = 1 := by decide +kernel
      rw [e2] at a1
      rw [e3] at a2
      rw [← hz', hs]
      have := half_close _ (val (mag x)) 1 hsg (by grind) (by grind)
      rw [Rat.mul_one] at this
      exact this
    · rw [if_neg h2]
      have e := word_or x 0 hx (by decide)
      rw [Nat.add_zero] at e
      rw [e]
      obtain ⟨w1, w2⟩ := word_zero (x / 2 ^ 63 % 2 == 1)
      have a2 := mag_lt x 1022 hx (by decide) (by decide) (by omega)
      have e2 : p2 (((1022 : Nat) : Int) - 1023) = 1 / 2 := by decide +kernel
      rw [e2] at a2
      refine ⟨w1, 0, by rw [w2]; rfl, ?_⟩
      have := half_close _ (val (mag x)) 0 hsg (by grind) (by grind)
      rw [Rat.mul_zero] at this
      rw [hs]
      exact this
  · rw [if_neg h1, if_pos he]
    obtain ⟨k, f, hkf, hf, hk⟩ : ∃ k f, x % 2 ^ 63 = k * 2 ^ 52 + f ∧ f < 2 ^ 52 ∧ 1023 ≤ k := ⟨x % 2 ^ 63 / 2 ^ 52, x % 2 ^ 63 % 2 ^ 52, by omega, by omega, by omega⟩
    have hkd : x % 2 ^ 63 / 2 ^ 52 = k := by omega
    rw [hkd] at he ⊢
    have hsp := word_split x hx
    have hvx := (val_norm (x / 2 ^ 63 % 2 == 1) k f (by omega) (by omega) hf).2
    rw [hkf] at hsp
    rw [← hsp] at hvx
    obtain ⟨d, hd, hd2⟩ : ∃ d : Nat, 1075 - k = d + 1 ∧ d + 1 ≤ 52 := ⟨1074 - k, by omega, by omega⟩
    have hd' : 1074 - k = d := by omega
    rw [hd, hd']
    have hkd' : ((k : Int) - 1075) = -((d + 1 : Nat) : Int) := by omega
    obtain ⟨c, hc⟩ : ∃ c, 52 = (d + 1) + c := ⟨51 - d, by omega⟩
    have e52 : 2 ^ 52 = 2 ^ (d + 1) * 2 ^ c := by rw [← Nat.pow_add, ← hc]
    have hxd : x % 2 ^ (d + 1) = f % 2 ^ (d + 1) := mod_low x k f (d + 1) (by omega) (by omega)
    have hmod : (x + 2 ^ d) % 2 ^ (d + 1) = (f + 2 ^ d) % 2 ^ (d + 1) := by rw [Nat.add_mod, hxd, ← Nat.add_mod]
    rw [hmod]
    have hdm := Nat.div_add_mod (f + 2 ^ d) (2 ^ (d + 1))
    have hml := Nat.mod_lt (f + 2 ^ d) (Nat.two_pow_pos (d + 1))
    have hp2 : 2 ^ (d + 1) = 2 * 2 ^ d := by rw [Nat.pow_succ, Nat.mul_comm]
    obtain ⟨r, hr⟩ : ∃ r, r = (f + 2 ^ d) / 2 ^ (d + 1) := ⟨_, rfl⟩
    obtain ⟨t, ht⟩ : ∃ t, t = (f + 2 ^ d) % 2 ^ (d + 1) := ⟨_, rfl⟩
    rw [← hr, ← ht] at hdm
    rw [← ht] at hml ⊢
    have hrc : r ≤ 2 ^ c := by
      have : 2 ^ (d + 1) * r < 2 ^ (d + 1) * (2 ^ c + 1) := by
        rw [Nat.mul_add, ← e52]; omega
      have := Nat.lt_of_mul_lt_mul_left this
      omega
    have hrm : 2 ^ (d + 1) * r ≤ 2 ^ 52 := by rw [e52]; exact Nat.mul_le_mul_left _ hrc
    have e : x + 2 ^ d - t = double.word (x / 2 ^ 63 % 2 == 1) ((k - 1) * 2 ^ 52 + (2 ^ 52 + 2 ^ (d + 1) * r)) := by
      rw [← word_or x _ hx (by omega), hkf]
      have : k * 2 ^ 52 + f ≤ x := by rw [← hkf]; exact Nat.mod_le _ _
      generalize 2 ^ (d + 1) * r = R at *
      generalize 2 ^ d = D at *
      omega
    rw [e]
    have g := val_rung (x / 2 ^ 63 % 2 == 1) (k - 1) (2 ^ 52 + 2 ^ (d + 1) * r) (by omega) (.inr (by omega)) (by omega)
    have hk2 : (((k - 1 : Nat) : Int) - 1074) = -((d + 1 : Nat) : Int) := by omega
    rw [hk2] at g
    rw [hkd'] at hvx
    have e3 : ((2 ^ 52 + 2 ^ (d + 1) * r : Nat) : Rat) * p2 (-((d + 1 : Nat) : Int)) = ((2 ^ c + r : Nat) : Rat) := by
      have h3 : 2 ^ 52 + 2 ^ (d + 1) * r = (2 ^ c + r) * 2 ^ (d + 1) := by rw [e52, Nat.add_mul, Nat.mul_comm (2 ^ c), Nat.mul_comm r]
      rw [h3, Rat.natCast_mul]
      have := p2_neg_nat (d + 1) ((2 ^ c + r : Nat) : Rat)
      grind
    rw [e3] at g
    obtain ⟨z, hz⟩ := sg_int (x / 2 ^ 63 % 2 == 1) (2 ^ c + r)
    refine ⟨g.1, z, by rw [← hz]; exact g.2, ?_⟩
    rw [← hz, hvx]
    have n1 : 2 * ((2 ^ c + r) * 2 ^ (d + 1)) ≤ 2 * (2 ^ 52 + f) + 2 ^ (d + 1) := by
      rw [Nat.add_mul, Nat.mul_comm (2 ^ c), ← e52, Nat.mul_comm r]
      generalize 2 ^ (d + 1) * r = R at *
      omega
    have n2 : 2 * (2 ^ 52 + f) ≤ 2 * ((2 ^ c + r) * 2 ^ (d + 1)) + 2 ^ (d + 1) := by
      rw [Nat.add_mul, Nat.mul_comm (2 ^ c), ← e52, Nat.mul_comm r]
      generalize 2 ^ (d + 1) * r = R at *
      omega
    have q1 : ((2 * ((2 ^ c + r) * 2 ^ (d + 1)) : Nat) : Rat) ≤ ((2 * (2 ^ 52 + f) + 2 ^ (d + 1) : Nat) : Rat) := by exact_mod_cast n1
    have q2 : ((2 * (2 ^ 52 + f) : Nat) : Rat) ≤ ((2 * ((2 ^ c + r) * 2 ^ (d + 1)) + 2 ^ (d + 1) : Nat) : Rat) := by exact_mod_cast n2
    have r1 := Rat.mul_le_mul_of_nonneg_right q1 (Rat.le_of_lt (p2_pos (-((d + 1 : Nat) : Int))))
    have r2 := Rat.mul_le_mul_of_nonneg_right q2 (Rat.le_of_lt (p2_pos (-((d + 1 : Nat) : Int))))
    rw [Rat.natCast_mul, Rat.natCast_mul (2 ^ c + r), Rat.natCast_add _ (2 ^ (d + 1)), Rat.natCast_mul 2 (2 ^ 52 + f)] at r1
    rw [Rat.natCast_mul 2 (2 ^ 52 + f), Rat.natCast_add _ (2 ^ (d + 1)), Rat.natCast_mul 2, Rat.natCast_mul (2 ^ c + r)] at r2
    have t2 : ((2 : Nat) : Rat) = 2 := rfl
    have u1 := p2_neg_nat (d + 1) ((2 ^ c + r : Nat) : Rat)
    have u2 := p2_neg_nat (d + 1) 1
    rw [t2] at r1 r2
    exact half_close _ _ _ hsg (by grind) (by grind)
theorem cut_to_zero (b : Bool) (n d : Nat) : Toward.zero.cut b n d = n / 2 ^ d := by
  unfold Toward.cut
  simp only [Nat.one_shiftLeft]
  by_cases h : d ≤ n.log2 + 2
  · rw [Nat.min_eq_left h]; simp
  · rw [Nat.min_eq_right (by omega)]
    have hn : n < 2 ^ (n.log2 + 1) := Nat.lt_log2_self
    have h1 : 2 ^ (n.log2 + 1) ≤ 2 ^ (n.log2 + 2) := Nat.pow_le_pow_right (by decide) (by omega)
    have h2 : 2 ^ (n.log2 + 1) ≤ 2 ^ d := Nat.pow_le_pow_right (by decide) (by omega)
    rw [Nat.div_eq_of_lt (by omega), Nat.div_eq_of_lt (by omega)]; simp
/-- a word that is a whole number, read as an integer -/
theorem toInt_whole (x : Nat) (h : Finite x) (n : Int) (hv : val x = n) (h1 : -4611686018427387904 ≤ n) (h2 : n ≤ 4611686018427387904) : floatToIntVal .f64 x .i64 = some n := by
  obtain ⟨s, m, i, hr, hm, hi, hi2⟩ := read_fin x h
  have hd : FloatKind.f64.decode x = .number s m i := hr
  have hvv : sg s * ((m : Rat) * p2 i) = (n : Rat) := by rw [← hv]; simp [val, hr, dval]
  have key : (Datum.number s m i).toInt .zero = some n := by
    simp only [Datum.toInt, Datum.integral, cut_to_zero]
    congr 1
    have hs := signed_val s (m <<< i.toNat / 2 ^ (-i).toNat) 0 0
    rw [p2_zero, Rat.mul_one, show ((0 : Int) + ((0 : Nat) : Int)) = 0 from rfl, p2_zero, Rat.mul_one] at hs
    have : ((signed s (m <<< i.toNat / 2 ^ (-i).toNat) 0 : Int) : Rat) = (n : Rat) := by
      rw [hs, ← hvv]
      congr 1
      rcases (by omega : 0 ≤ i ∨ i < 0) with hi0 | hi0
      · have e1 : (-i).toNat = 0 := by omega
        rw [e1, Nat.pow_zero, Nat.div_one, Nat.shiftLeft_eq, Rat.natCast_mul, ← p2_nat]
        congr 2
        omega
      · have e1 : i.toNat = 0 := by omega
        obtain ⟨d, hd'⟩ : ∃ d : Nat, i = -(d : Int) := ⟨(-i).toNat, by omega⟩
        subst hd'
        have e2 : (-(-(d : Int))).toNat = d := by omega
        rw [e1, e2, Nat.shiftLeft_eq, Nat.pow_zero, Nat.mul_one]
        have h3 := p2_neg_nat d (m : Rat)
        have h4 : (m : Rat) = ((n.natAbs * 2 ^ d : Nat) : Rat) := by
          have h5 : (m : Rat) * p2 (-(d : Int)) = (n.natAbs : Rat) := by
            have h6 : 0 ≤ (m : Rat) * p2 (-(d : Int)) := mp_nonneg _ _
            have h7 := natAbs_val n false
            rcases sg_cases s with e | e <;> rw [e] at hvv
            · have h8 : (0 : Rat) ≤ (n : Rat) := by grind
              have h9 : (0 : Int) ≤ n := by exact_mod_cast h8
              have h10 : ((n.natAbs : Int) : Rat) = (n : Rat) := by congr 1; omega
              have h11 : ((n.natAbs : Int) : Rat) = (n.natAbs : Rat) := rfl
              grind
            · have h8 : (n : Rat) ≤ (0 : Rat) := by grind
              have h9 : n ≤ (0 : Int) := by exact_mod_cast h8
              have h10 : ((n.natAbs : Int) : Rat) = ((-n : Int) : Rat) := by congr 1; omega
              have h11 : ((n.natAbs : Int) : Rat) = (n.natAbs : Rat) := rfl
              rw [Rat.intCast_neg] at h10
              grind
          rw [Rat.natCast_mul, ← h5]; exact h3.symm
        have h5 : m = n.natAbs * 2 ^ d := by exact_mod_cast h4
        have h6 : m / 2 ^ d = n.natAbs := by rw [h5]; exact Nat.mul_div_cancel _ (Nat.two_pow_pos d)
        rw [h6, h5, Rat.natCast_mul]
        have := p2_neg_nat d (n.natAbs : Rat)
        grind
    exact_mod_cast this
  unfold floatToIntVal
  rw [hd, key]
  have a1 : IntKind.min .i64 = -9223372036854775808 := rfl
  have a2 : IntKind.max .i64 = 9223372036854775807 := rfl
  simp only [a1, a2]
  rw [if_pos ⟨by omega, by omega⟩]
end FL
