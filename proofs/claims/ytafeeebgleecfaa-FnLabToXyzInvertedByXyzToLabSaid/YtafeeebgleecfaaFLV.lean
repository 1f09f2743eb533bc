/-
  Plain facts on IEEE double words, continued: the first guess of a cube root out of the word's bits.
-/
import Derived.Test.YtafeeebgleecfaaFLU
namespace FL
open Ieee
set_option linter.unusedVariables false
theorem word_false (r : Nat) : double.word false r = r := by unfold Format.word; simp
theorem val_bin (k f : Nat) (hk : 1 ≤ k) (hk2 : k < 2047) (hf : f < 2 ^ 52) : Finite (k * 2 ^ 52 + f) ∧ val (k * 2 ^ 52 + f) = ((2 ^ 52 + f : Nat) : Rat) * p2 ((k : Int) - 1075) := by
  have h := val_norm false k f hk hk2 hf
  rw [word_false] at h
  have h1 : sg false = 1 := rfl
  rw [h1, Rat.one_mul] at h
  exact h
/-- a positive word by its exponent and its digits -/
theorem bin_of (x : Nat) (fx : Finite x) (a b : Int) (ha : -1000 ≤ a) (hb : b ≤ 1000) (h1 : p2 a ≤ val x) (h2 : val x < p2 b) :
    ∃ k f : Nat, x = k * 2 ^ 52 + f ∧ f < 2 ^ 52 ∧ a + 1023 ≤ (k : Int) ∧ (k : Int) < b + 1023 := by
  have hp := p2_pos a
  have hs := val_sg x fx
  have hm := (mag_bounds x fx.1).1
  have hb0 : (x / 2 ^ 63 % 2 == 1) = false := by
    cases h : (x / 2 ^ 63 % 2 == 1) with
    | false => rfl
    | true =>
      rw [h] at hs
      have : sg true = -1 := rfl
      rw [this] at hs
      grind
  have hx : x < 2 ^ 63 := by
    have h3 : ¬ x / 2 ^ 63 % 2 = 1 := by simpa using hb0
    have := fx.1
    omega
  have hmx : mag x = x := by unfold mag; omega
  refine ⟨x / 2 ^ 52, x % 2 ^ 52, by omega, by omega, ?_, ?_⟩
  · rcases (by omega : a + 1023 ≤ ((x / 2 ^ 52 : Nat) : Int) ∨ ((x / 2 ^ 52 : Nat) : Int) < a + 1023) with h | h
    · exact h
    · exfalso
      obtain ⟨c, hc⟩ : ∃ c : Nat, (c : Int) = a + 1023 := ⟨(a + 1023).toNat, by omega⟩
      have hab := p2_lt_iff (a := a) (b := b) (by grind)
      have h5 := mag_lt x c fx.1 (by omega) (by omega) (by omega)
      rw [hmx, hc] at h5
      have : a + 1023 - 1023 = a := by omega
      rw [this] at h5
      grind
  · rcases (by omega : ((x / 2 ^ 52 : Nat) : Int) < b + 1023 ∨ b + 1023 ≤ ((x / 2 ^ 52 : Nat) : Int)) with h | h
    · exact h
    · exfalso
      have hab := p2_lt_iff (a := a) (b := b) (by grind)
      obtain ⟨c, hc⟩ : ∃ c : Nat, (c : Int) = b + 1023 := ⟨(b + 1023).toNat, by omega⟩
      have h5 := mag_ge x c fx (by omega) (by omega)
      rw [hmx, hc] at h5
      have : b + 1023 - 1023 = b := by omega
      rw [this] at h5
      grind
theorem cube_nn {a b : Rat} (ha : 0 ≤ a) (hb : 0 ≤ b) : 0 ≤ a * a * a ∧ 0 ≤ a * a * b ∧ 0 ≤ a * b * b ∧ 0 ≤ b * b * b :=
  ⟨Rat.mul_nonneg (Rat.mul_nonneg ha ha) ha, Rat.mul_nonneg (Rat.mul_nonneg ha ha) hb, Rat.mul_nonneg (Rat.mul_nonneg ha hb) hb, Rat.mul_nonneg (Rat.mul_nonneg hb hb) hb⟩
theorem cube_mono {a b : Rat} (ha : 0 ≤ a) (h : a ≤ b) : a * a * a ≤ b * b * b := by
  have h1 := sq_le_sq ha h
  have h2 := Rat.mul_le_mul_of_nonneg_left h (Rat.mul_nonneg ha ha)
  have h3 := Rat.mul_le_mul_of_nonneg_right h1 (show 0 ≤ b by grind)
  grind
/-- the guess against the number: a thrice, by the remainder of the exponent -/
theorem guess0 (f t : Rat) (f0 : 0 ≤ f) (f1 : f ≤ 1) (h1 : 966937 / 1000000 + f / 3 ≤ t) (h2 : t ≤ 966938 / 1000000 + f / 3) : 5 / 6 * (1 + f) ≤ t * t * t ∧ t * t * t ≤ 7 / 6 * (1 + f) := by
  obtain ⟨n0, n1, n2, n3⟩ := cube_nn f0 (show 0 ≤ 1 - f by grind)
  have c1 := cube_mono (show 0 ≤ 966937 / 1000000 + f / 3 by grind) h1
  have c2 := cube_mono (show 0 ≤ t by grind) h2
  constructor <;> grind
theorem guess0b (f t : Rat) (f0 : 0 ≤ f) (f1 : f ≤ 1 / 10) (h1 : 983468 / 1000000 + f / 6 ≤ t) (h2 : t ≤ 1) : 5 / 6 * (1 + f) ≤ t * t * t ∧ t * t * t ≤ 7 / 6 * (1 + f) := by
  have c1 := cube_mono (show 0 ≤ (983468 / 1000000 : Rat) by decide +kernel) (show 983468 / 1000000 ≤ t by grind)
  have c2 := cube_mono (show 0 ≤ t by grind) h2
  constructor <;> grind
theorem guess1 (f t : Rat) (f0 : 0 ≤ f) (f1 : f ≤ 1) (h1 : 1300270 / 1000000 + f / 3 ≤ t) (h2 : t ≤ 1300272 / 1000000 + f / 3) : 5 / 6 * (2 * (1 + f)) ≤ t * t * t ∧ t * t * t ≤ 7 / 6 * (2 * (1 + f)) := by
  obtain ⟨n0, n1, n2, n3⟩ := cube_nn f0 (show 0 ≤ 1 - f by grind)
  have c1 := cube_mono (show 0 ≤ 1300270 / 1000000 + f / 3 by grind) h1
  have c2 := cube_mono (show 0 ≤ t by grind) h2
  constructor <;> grind
theorem guess2 (f t : Rat) (f0 : 0 ≤ f) (f1 : f ≤ 1) (h1 : 1633603 / 1000000 + f / 3 ≤ t) (h2 : t ≤ 1633606 / 1000000 + f / 3) : 5 / 6 * (4 * (1 + f)) ≤ t * t * t ∧ t * t * t ≤ 7 / 6 * (4 * (1 + f)) := by
  obtain ⟨n0, n1, n2, n3⟩ := cube_nn f0 (show 0 ≤ 1 - f by grind)
  have c1 := cube_mono (show 0 ≤ 1633603 / 1000000 + f / 3 by grind) h1
  have c2 := cube_mono (show 0 ≤ t by grind) h2
  constructor <;> grind
theorem p2_52v : p2 (-52) * 4503599627370496 = 1 := by decide +kernel
/-- the first guess: its cube within a sixth of the number -/
theorem cbrt_start (x : Nat) (fx : Finite x) (h1 : p2 (-9) ≤ val x) (h2 : val x < p2 40) :
    ∃ (k : Int) (tau xi : Rat), -5 ≤ k ∧ k ≤ 14 ∧ Finite (x / 3 + 3071306043645493248) ∧ val (x / 3 + 3071306043645493248) = tau * p2 k ∧ val x = xi * (p2 k * p2 k * p2 k) ∧ 96 / 100 ≤ tau ∧ tau ≤ 2 ∧ 1 ≤ xi ∧ xi ≤ 8 ∧ 5 / 6 * xi ≤ tau * tau * tau ∧ tau * tau * tau ≤ 7 / 6 * xi := by
  obtain ⟨E, M, hx, hM, hE1, hE2⟩ := bin_of x fx (-9) 40 (by decide) (by decide) h1 h2
  obtain ⟨K, j, hK, hj⟩ : ∃ K j : Nat, E = 3 * K + j ∧ j < 3 := ⟨E / 3, E % 3, by omega, by omega⟩
  obtain ⟨Q, hQ⟩ : ∃ Q : Nat, Q = (j * 2 ^ 52 + M) / 3 := ⟨_, rfl⟩
  have hq : x / 3 = K * 2 ^ 52 + Q := by rw [hx, hK, hQ]; omega
  have hQ1 : 3 * Q ≤ j * 2 ^ 52 + M := by omega
  have hQ2 : j * 2 ^ 52 + M ≤ 3 * Q + 2 := by omega
  obtain ⟨e, he⟩ : ∃ e : Int, e = (K : Int) - 341 := ⟨_, rfl⟩
  have hvx : val x = ((2 ^ 52 + M : Nat) : Rat) * p2 ((E : Int) - 1075) := by rw [hx]; exact (val_bin E M (by omega) (by omega) hM).2
  -- digits as fractions
  have eF : ((2 ^ 52 : Nat) : Rat) = 4503599627370496 := by decide +kernel
  have q1 : 3 * (Q : Rat) ≤ (j : Rat) * 4503599627370496 + (M : Rat) := by
    have : ((3 * Q : Nat) : Rat) ≤ ((j * 2 ^ 52 + M : Nat) : Rat) := by exact_mod_cast hQ1
    rw [Rat.natCast_mul, Rat.natCast_add, Rat.natCast_mul, eF] at this; exact this
  have q2 : (j : Rat) * 4503599627370496 + (M : Rat) ≤ 3 * (Q : Rat) + 2 := by
    have : ((j * 2 ^ 52 + M : Nat) : Rat) ≤ ((3 * Q + 2 : Nat) : Rat) := by exact_mod_cast hQ2
    rw [Rat.natCast_add, Rat.natCast_add, Rat.natCast_mul, Rat.natCast_mul, eF] at this; exact this
  have m0 : (0 : Rat) ≤ (M : Rat) := Rat.natCast_nonneg
  have m1 : (M : Rat) ≤ 4503599627370496 := by
    have : ((M : Nat) : Rat) ≤ ((2 ^ 52 : Nat) : Rat) := by exact_mod_cast (by omega : M ≤ 2 ^ 52)
    rw [eF] at this; exact this
  obtain ⟨f, hf⟩ : ∃ f : Rat, f = (M : Rat) / 4503599627370496 := ⟨_, rfl⟩
  obtain ⟨g, hg⟩ : ∃ g : Rat, g = ((Q : Rat) + 4354697406185472) / 4503599627370496 := ⟨_, rfl⟩
  have hg1 : 966937 / 1000000 + ((j : Rat) + f) / 3 ≤ g := by grind
  have hg2 : g ≤ 966938 / 1000000 + ((j : Rat) + f) / 3 := by grind
  have f0 : 0 ≤ f := by grind
  have f1 : f ≤ 1 := by grind
  have hMf : ((2 ^ 52 + M : Nat) : Rat) = (1 + f) * 4503599627370496 := by rw [Rat.natCast_add, eF]; grind
  have hx2 : val x = (1 + f) * p2 (j : Int) * (p2 e * p2 e * p2 e) := by
    rw [hvx, hMf]
    have : (E : Int) - 1075 = -52 + ((j : Int) + (e + e + e)) := by omega
    rw [this, p2_add, p2_add, p2_add, p2_add]
    have := p2_52v
    grind
  have hpos := p2_pos e
  -- the two forms of the guess
  have hword : x / 3 + 3071306043645493248 = (K + 681) * 2 ^ 52 + (Q + 4354697406185472) := by rw [hq]; omega
  have c3 : j = 0 ∨ j = 1 ∨ j = 2 := by omega
  rcases Nat.lt_or_ge (Q + 4354697406185472) (2 ^ 52) with hlt | hge
  · have hj0 : j = 0 := by omega
    subst hj0
    have hb := val_bin (K + 681) (Q + 4354697406185472) (by omega) (by omega) hlt
    rw [← hword] at hb
    have hgg : g ≤ 1 := by
      have : ((Q + 4354697406185472 : Nat) : Rat) ≤ ((2 ^ 52 : Nat) : Rat) := Rat.natCast_le_natCast.mpr (Nat.le_of_lt hlt)
      rw [Rat.natCast_add, eF] at this
      have e2 : ((4354697406185472 : Nat) : Rat) = 4354697406185472 := by decide +kernel
      rw [e2] at this
      grind
    have z0 : ((0 : Nat) : Rat) = 0 := rfl
    rw [z0] at hg1 hg2
    obtain ⟨r1, r2⟩ := guess0b f ((1 + g) / 2) f0 (by grind) (by grind) (by grind)
    refine ⟨e, (1 + g) / 2, 1 + f, by omega, by omega, hb.1, ?_, ?_, by grind, by grind, by grind, by grind, r1, r2⟩
    · rw [hb.2]
      have e1 : ((2 ^ 52 + (Q + 4354697406185472) : Nat) : Rat) = (1 + g) * 4503599627370496 := by
        rw [Rat.natCast_add, Rat.natCast_add, eF]
        have e2 : ((4354697406185472 : Nat) : Rat) = 4354697406185472 := by decide +kernel
        rw [e2]; grind
      rw [e1]
      have : (((K + 681 : Nat) : Int)) - 1075 = -52 + (-1 + e) := by omega
      rw [this, p2_add, p2_add]
      have := p2_52v
      have h3 : p2 (-1) = 1 / 2 := by decide +kernel
      rw [h3]
      grind
    · have h3 : p2 ((0 : Nat) : Int) = 1 := p2_zero
      rw [hx2, h3]; grind
  · obtain ⟨Q', hQ'⟩ : ∃ Q' : Nat, Q + 4354697406185472 = 2 ^ 52 + Q' := ⟨Q + 4354697406185472 - 2 ^ 52, by omega⟩
    have hb := val_bin (K + 682) Q' (by omega) (by omega) (by omega)
    have hword2 : x / 3 + 3071306043645493248 = (K + 682) * 2 ^ 52 + Q' := by rw [hword, hQ']; omega
    rw [← hword2] at hb
    have e1 : ((2 ^ 52 + Q' : Nat) : Rat) = g * 4503599627370496 := by
      rw [← hQ', Rat.natCast_add]
      have e2 : ((4354697406185472 : Nat) : Rat) = 4354697406185472 := by decide +kernel
      rw [e2]; grind
    have hgg : 1 ≤ g := by
      have : ((2 ^ 52 : Nat) : Rat) ≤ ((2 ^ 52 + Q' : Nat) : Rat) := by exact_mod_cast (by omega : 2 ^ 52 ≤ 2 ^ 52 + Q')
      rw [e1, eF] at this
      grind
    have hv : val (x / 3 + 3071306043645493248) = g * p2 e := by
      rw [hb.2, e1]
      have : (((K + 682 : Nat) : Int)) - 1075 = -52 + e := by omega
      rw [this, p2_add]
      have := p2_52v
      grind
    rcases c3 with rfl | rfl | rfl
    · have z0 : ((0 : Nat) : Rat) = 0 := rfl
      rw [z0] at hg1 hg2
      obtain ⟨r1, r2⟩ := guess0 f g f0 f1 (by grind) (by grind)
      have h3 : p2 ((0 : Nat) : Int) = 1 := p2_zero
      exact ⟨e, g, 1 + f, by omega, by omega, hb.1, hv, by rw [hx2, h3]; grind, by grind, by grind, by grind, by grind, r1, r2⟩
    · have z0 : ((1 : Nat) : Rat) = 1 := rfl
      rw [z0] at hg1 hg2
      obtain ⟨r1, r2⟩ := guess1 f g f0 f1 (by grind) (by grind)
      have h3 : p2 ((1 : Nat) : Int) = 2 := p2_one
      exact ⟨e, g, 2 * (1 + f), by omega, by omega, hb.1, hv, by rw [hx2, h3]; grind, by grind, by grind, by grind, by grind, r1, r2⟩
    · have z0 : ((2 : Nat) : Rat) = 2 := rfl
      rw [z0] at hg1 hg2
      obtain ⟨r1, r2⟩ := guess2 f g f0 f1 (by grind) (by grind)
      have h3 : p2 ((2 : Nat) : Int) = 4 := by decide +kernel
      exact ⟨e, g, 4 * (1 + f), by omega, by omega, hb.1, hv, by rw [hx2, h3]; grind, by grind, by grind, by grind, by grind, r1, r2⟩
end FL
