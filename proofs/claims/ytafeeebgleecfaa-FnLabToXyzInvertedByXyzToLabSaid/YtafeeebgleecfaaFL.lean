/-
  Plain facts on IEEE double words: what a finite word is worth as a rational number, and that each operation's answer is near the exact one.
-/
import Ieee.Arith
namespace FL
open Ieee
set_option linter.unusedVariables false

/-! ### powers of two -/
def p2 (e : Int) : Rat := (2 : Rat) ^ e
theorem p2_pos (e : Int) : 0 < p2 e := Rat.zpow_pos (by decide)
theorem p2_add (a b : Int) : p2 (a + b) = p2 a * p2 b := Rat.zpow_add (by decide) a b
theorem p2_nat (n : Nat) : p2 (n : Int) = ((2 ^ n : Nat) : Rat) := by
  unfold p2; rw [Rat.zpow_natCast, Rat.natCast_pow]; rfl
theorem p2_zero : p2 0 = 1 := Rat.zpow_zero _
theorem p2_one : p2 1 = 2 := Rat.zpow_one _
theorem p2_le {a b : Int} (h : a ≤ b) : p2 a ≤ p2 b := by
  obtain ⟨n, rfl⟩ := Int.le.dest h
  rw [p2_add, p2_nat]
  have h1 : (1 : Rat) ≤ ((2 ^ n : Nat) : Rat) := by
    have : (1 : Nat) ≤ 2 ^ n := Nat.one_le_two_pow
    exact_mod_cast this
  have := Rat.mul_le_mul_of_nonneg_left h1 (Rat.le_of_lt (p2_pos a))
  rwa [Rat.mul_one] at this
theorem p2_sub_nat (a : Int) (n : Nat) : p2 a = p2 (a - n) * ((2 ^ n : Nat) : Rat) := by
  rw [← p2_nat, ← p2_add]; congr 1; omega

/-! ### the cut to a whole number, to even -/
theorem cut_even (neg : Bool) (n drop : Nat) :
    2 * (Toward.even.cut neg n drop * 2 ^ drop) ≤ 2 * n + 2 ^ drop ∧ 2 * n ≤ 2 * (Toward.even.cut neg n drop * 2 ^ drop) + 2 ^ drop := by
  unfold Toward.cut
  simp only [Nat.one_shiftLeft]
  by_cases h : drop ≤ n.log2 + 2
  · rw [Nat.min_eq_left h]
    have hp : 0 < 2 ^ drop := Nat.two_pow_pos _
    have hdm := Nat.div_add_mod n (2 ^ drop)
    have hm := Nat.mod_lt n hp
    generalize 2 ^ drop = g at *
    generalize n / g = q at *
    generalize n % g = r at *
    have hq : g * q = q * g := Nat.mul_comm _ _
    have key : ∀ b : Bool, (b = true → g ≤ 2 * r) → (b = false → 2 * r ≤ g) → 2 * ((q + b.toNat) * g) ≤ 2 * n + g ∧ 2 * n ≤ 2 * ((q + b.toNat) * g) + g := by
      intro b h1 h2
      cases b
      · have := h2 rfl
        simp only [Bool.toNat_false, Nat.add_zero]
        omega
      · have := h1 rfl
        simp only [Bool.toNat_true, Nat.add_mul, Nat.one_mul]
        omega
    apply key
    · intro hb
      simp at hb
      omega
    · intro hb
      simp at hb
      omega
  · rw [Nat.min_eq_right (by omega)]
    have hn : n < 2 ^ (n.log2 + 1) := Nat.lt_log2_self
    have h2 : 2 ^ (n.log2 + 2) = 2 * 2 ^ (n.log2 + 1) := by rw [Nat.pow_succ, Nat.mul_comm]
    have h3 : 2 ^ (n.log2 + 2) ≤ 2 ^ drop := Nat.pow_le_pow_right (by decide) (by omega)
    have hq : n / 2 ^ (n.log2 + 2) = 0 := Nat.div_eq_of_lt (by omega)
    have hr : n % 2 ^ (n.log2 + 2) = n := Nat.mod_eq_of_lt (by omega)
    rw [hq, hr]
    have hf : (decide (2 ^ (n.log2 + 2) < 2 * n) || (2 ^ (n.log2 + 2) == 2 * n && 0 % 2 == 1)) = false := by
      simp; omega
    simp only [hf, Bool.toNat_false]
    omega
theorem cut_zero (neg : Bool) (n : Nat) : Toward.even.cut neg n 0 = n := by
  have h := cut_even neg n 0
  omega
theorem cut_neg (a b : Bool) (n drop : Nat) : Toward.even.cut a n drop = Toward.even.cut b n drop := rfl

/-! ### words and what they are worth -/
def Finite (x : Nat) : Prop := x < 2 ^ 64 ∧ x % 2 ^ 63 < 2047 * 2 ^ 52
def sg (neg : Bool) : Rat := if neg then -1 else 1
def dval : Datum → Rat
  | .number s m i => sg s * ((m : Rat) * p2 i)
  | _ => 0
def val (x : Nat) : Rat := dval (double.read x)

instance (x : Nat) : Decidable (Finite x) := by unfold Finite; infer_instance
theorem d_sw : double.signWeight = 2 ^ 63 := rfl
theorem d_bin : double.binade = 2 ^ 52 := rfl
theorem d_inf : double.infRung = 2047 * 2 ^ 52 := rfl
theorem d_lp : double.leastPlace = -1074 := by decide

theorem read_lo (x : Nat) (h : x % 2 ^ 63 < 2 ^ 52) : double.read x = .number (x / 2 ^ 63 % 2 == 1) (x % 2 ^ 63) (-1074) := by
  unfold Format.read
  simp only [d_sw, d_bin, d_lp]
  rw [if_pos h]
theorem read_hi (x : Nat) (h : ¬ x % 2 ^ 63 < 2 ^ 52) (h2 : x % 2 ^ 63 < 2047 * 2 ^ 52) :
    double.read x = .number (x / 2 ^ 63 % 2 == 1) (2 ^ 52 + x % 2 ^ 63 % 2 ^ 52) (-1074 + (x % 2 ^ 63 / 2 ^ 52 - 1 : Nat)) := by
  unfold Format.read
  simp only [d_sw, d_bin, d_lp, d_inf]
  rw [if_neg h, if_pos h2]

theorem read_inf (x : Nat) (h : x % 2 ^ 63 = 2047 * 2 ^ 52) : double.read x = .infinity (x / 2 ^ 63 % 2 == 1) := by
  have h1 : ¬ x % double.signWeight < double.binade := by rw [d_sw, d_bin]; omega
  have h2 : ¬ x % double.signWeight < double.infRung := by rw [d_sw, d_inf]; omega
  have h3 : x % double.signWeight = double.infRung := h
  simp only [Format.read, if_neg h1, if_neg h2, if_pos h3]
  rfl
theorem read_nan (x : Nat) (h : 2047 * 2 ^ 52 < x % 2 ^ 63) : double.read x = .nan (x / 2 ^ 63 % 2 == 1) (x % 2 ^ 63 - 2047 * 2 ^ 52) := by
  have h1 : ¬ x % double.signWeight < double.binade := by rw [d_sw, d_bin]; omega
  have h2 : ¬ x % double.signWeight < double.infRung := by rw [d_sw, d_inf]; omega
  have h3 : ¬ x % double.signWeight = double.infRung := by rw [d_sw, d_inf]; omega
  simp only [Format.read, if_neg h1, if_neg h2, if_neg h3]
  rfl

/-- A finite word is a number of at most 53 digits whose last place is at least -1074. -/
theorem read_fin (x : Nat) (h : Finite x) : ∃ s m i, double.read x = .number s m i ∧ m < 2 ^ 53 ∧ -1074 ≤ i ∧ i ≤ 971 := by
  by_cases h1 : x % 2 ^ 63 < 2 ^ 52
  · exact ⟨_, _, _, read_lo x h1, by omega, by omega, by omega⟩
  · exact ⟨_, _, _, read_hi x h1 h.2, by omega, by omega, by have := h.2; omega⟩

theorem word_lt (neg : Bool) (r : Nat) (h : r < 2 ^ 63) : double.word neg r < 2 ^ 64 ∧ double.word neg r % 2 ^ 63 = r ∧ (double.word neg r / 2 ^ 63 % 2 == 1) = neg := by
  unfold Format.word
  rw [d_sw]
  cases neg
  · simp only [Bool.false_eq_true, if_false]
    refine ⟨by omega, by omega, ?_⟩
    have : r / 2 ^ 63 = 0 := by omega
    rw [this]; rfl
  · simp only [if_true]
    refine ⟨by omega, by omega, ?_⟩
    have : (2 ^ 63 + r) / 2 ^ 63 = 1 := by omega
    rw [this]; rfl

/-- The rung 'k * 2 ^ 52 + K' is worth 'K * 2 ^ (k - 1074)'. -/
theorem val_rung (neg : Bool) (k K : Nat) (hK : K ≤ 2 ^ 53) (hk : k = 0 ∨ 2 ^ 52 ≤ K) (hi : k * 2 ^ 52 + K < 2047 * 2 ^ 52) :
    Finite (double.word neg (k * 2 ^ 52 + K)) ∧ val (double.word neg (k * 2 ^ 52 + K)) = sg neg * ((K : Rat) * p2 ((k : Int) - 1074)) := by
  obtain ⟨h1, h2, h3⟩ := word_lt neg (k * 2 ^ 52 + K) (by omega)
  refine ⟨⟨h1, by omega⟩, ?_⟩
  unfold val
  by_cases hlo : k * 2 ^ 52 + K < 2 ^ 52
  · have hk0 : k = 0 := by omega
    subst hk0
    rw [read_lo _ (by omega), h3, h2]
    simp [dval]
  · rw [read_hi _ (by omega) (by omega), h3, h2]
    simp only [dval]
    by_cases hK2 : K < 2 ^ 52
    · omega
    · by_cases hK3 : K = 2 ^ 53
      · subst hK3
        have e1 : (k * 2 ^ 52 + 2 ^ 53) % 2 ^ 52 = 0 := by omega
        have e2 : (-1074 + ((k * 2 ^ 52 + 2 ^ 53) / 2 ^ 52 - 1 : Nat) : Int) = ((k : Int) - 1074) + 1 := by omega
        rw [e1, e2, p2_add, p2_one]
        have : (((2 ^ 52 + 0 : Nat)) : Rat) * (p2 ((k : Int) - 1074) * 2) = ((2 ^ 53 : Nat) : Rat) * p2 ((k : Int) - 1074) := by
          rw [show (2 ^ 53 : Nat) = (2 ^ 52 + 0) * 2 by decide, Rat.natCast_mul]
          grind
        rw [this]
      · have e1 : 2 ^ 52 + (k * 2 ^ 52 + K) % 2 ^ 52 = K := by omega
        have e2 : (-1074 + ((k * 2 ^ 52 + K) / 2 ^ 52 - 1 : Nat) : Int) = ((k : Int) - 1074) := by omega
        rw [e1, e2]

/-! ### rounding to nearest -/
theorem p2_lt_iff {a b : Int} (h : p2 a < p2 b) : a < b := by
  rcases (by omega : a < b ∨ b ≤ a) with h1 | h1
  · exact h1
  · have := p2_le h1; grind
theorem nat_p2 (n k : Nat) (i : Int) : ((n * 2 ^ k : Nat) : Rat) * p2 i = (n : Rat) * p2 (i + k) := by
  rw [p2_add, p2_nat, Rat.natCast_mul]; grind

/-- What the nearest word to 'mag * 2 ^ place' is worth. -/
theorem nearest_core (neg : Bool) (mag : Nat) (place : Int) (hm : mag ≠ 0) (hv : (mag : Rat) * p2 place < p2 1023) :
    ∃ (K : Nat) (last : Int), Finite (double.nearest neg mag place) ∧ val (double.nearest neg mag place) = sg neg * ((K : Rat) * p2 last) ∧ -1074 ≤ last ∧ last ≤ 970 ∧ K ≤ 2 ^ 53 ∧
      (last = -1074 ∨ (p2 (last + 52) ≤ (mag : Rat) * p2 place ∧ 2 ^ 52 ≤ K)) ∧ (last ≤ place → (K : Rat) * p2 last = (mag : Rat) * p2 place) ∧
      2 * ((K : Rat) * p2 last) ≤ 2 * ((mag : Rat) * p2 place) + p2 last ∧ 2 * ((mag : Rat) * p2 place) ≤ 2 * ((K : Rat) * p2 last) + p2 last := by
  obtain ⟨L, hL⟩ : ∃ L, L = mag.log2 := ⟨_, rfl⟩
  have hlo : 2 ^ L ≤ mag := by rw [hL]; exact Nat.log2_self_le hm
  have hhi : mag < 2 ^ (L + 1) := by rw [hL]; exact Nat.lt_log2_self
  have hvL : p2 (place + L) ≤ (mag : Rat) * p2 place := by
    rw [p2_add, p2_nat]
    have h1 : ((2 ^ L : Nat) : Rat) ≤ (mag : Rat) := by exact_mod_cast hlo
    have := Rat.mul_le_mul_of_nonneg_right h1 (Rat.le_of_lt (p2_pos place))
    grind
  have hPL : place + L < 1023 := p2_lt_iff (by grind)
  obtain ⟨last, hlast⟩ : ∃ last, last = max (place + L - 52) (-1074) := ⟨_, rfl⟩
  have hl52 : last = -1074 ∨ last + 52 = place + L := by omega
  have hl1 : -1074 ≤ last := by omega
  have hl2 : last ≤ 970 := by omega
  obtain ⟨K, hK⟩ : ∃ K, K = Toward.even.cut neg (mag <<< (place - last).toNat) (last - place).toNat := ⟨_, rfl⟩
  have hnear : double.nearest neg mag place = double.word neg (min ((last - -1074).toNat * 2 ^ 52 + K) (2047 * 2 ^ 52)) := by
    unfold Format.nearest
    rw [if_neg hm]
    simp only [d_lp, d_bin, d_inf]
    rw [← hL, hK, hlast]
    rfl
  have hce := cut_even neg (mag <<< (place - last).toNat) (last - place).toNat
  rw [← hK, Nat.shiftLeft_eq] at hce
  -- the two cases: digits are appended, or dropped
  have hKv : 2 * ((K : Rat) * p2 last) ≤ 2 * ((mag : Rat) * p2 place) + p2 last ∧ 2 * ((mag : Rat) * p2 place) ≤ 2 * ((K : Rat) * p2 last) + p2 last ∧ (last ≤ place → (K : Rat) * p2 last = (mag : Rat) * p2 place) := by
    by_cases hc : last ≤ place
    · have e0 : (last - place).toNat = 0 := by omega
      rw [e0] at hK
      rw [cut_zero, Nat.shiftLeft_eq] at hK
      have : (K : Rat) * p2 last = (mag : Rat) * p2 place := by
        rw [hK, nat_p2]; congr 2; omega
      have hp := p2_pos last
      refine ⟨by grind, by grind, fun _ => this⟩
    · have e0 : (place - last).toNat = 0 := by omega
      rw [e0, Nat.pow_zero, Nat.mul_one] at hce
      obtain ⟨d, hd⟩ : ∃ d, d = (last - place).toNat := ⟨_, rfl⟩
      rw [← hd] at hce
      have e1 : last = place + d := by omega
      have hq : ((K * 2 ^ d : Nat) : Rat) * p2 place = (K : Rat) * p2 last := by rw [nat_p2, e1]
      have hq2 : ((2 ^ d : Nat) : Rat) * p2 place = p2 last := by rw [e1, p2_add, p2_nat]; grind
      have hp := Rat.le_of_lt (p2_pos place)
      have c1 : (((2 * (K * 2 ^ d) : Nat)) : Rat) ≤ ((2 * mag + 2 ^ d : Nat) : Rat) := by exact_mod_cast hce.1
      have c2 : ((2 * mag : Nat) : Rat) ≤ ((2 * (K * 2 ^ d) + 2 ^ d : Nat) : Rat) := by exact_mod_cast hce.2
      have d1 := Rat.mul_le_mul_of_nonneg_right c1 hp
      have d2 := Rat.mul_le_mul_of_nonneg_right c2 hp
      rw [Rat.natCast_mul, Rat.natCast_add, Rat.natCast_mul] at d1
      rw [Rat.natCast_mul, Rat.natCast_add, Rat.natCast_mul] at d2
      have t2 : ((2 : Nat) : Rat) = 2 := rfl
      rw [t2] at d1 d2
      refine ⟨by grind, by grind, fun h => absurd h hc⟩
  -- the kept digits' bounds
  have hcell : K ≤ 2 ^ 53 ∧ (last = -1074 ∨ 2 ^ 52 ≤ K) := by
    by_cases hc : last ≤ place
    · have e0 : (last - place).toNat = 0 := by omega
      rw [e0, Nat.pow_zero] at hce
      obtain ⟨a, ha⟩ : ∃ a, a = (place - last).toNat := ⟨_, rfl⟩
      rw [← ha] at hce
      have hKa : K = mag * 2 ^ a := by omega
      have b1 : mag * 2 ^ a < 2 ^ (L + 1) * 2 ^ a := Nat.mul_lt_mul_of_pos_right hhi (Nat.two_pow_pos _)
      rw [← Nat.pow_add] at b1
      have b2 : 2 ^ (L + 1 + a) ≤ 2 ^ 53 := Nat.pow_le_pow_right (by decide) (by omega)
      refine ⟨by omega, ?_⟩
      by_cases hl : last = -1074
      · exact .inl hl
      · right
        have b3 : 2 ^ L * 2 ^ a ≤ mag * 2 ^ a := Nat.mul_le_mul_right _ hlo
        rw [← Nat.pow_add] at b3
        have b4 : 2 ^ 52 ≤ 2 ^ (L + a) := Nat.pow_le_pow_right (by decide) (by omega)
        omega
    · have e0 : (place - last).toNat = 0 := by omega
      rw [e0, Nat.pow_zero, Nat.mul_one] at hce
      obtain ⟨d, hd⟩ : ∃ d, d = (last - place).toNat := ⟨_, rfl⟩
      rw [← hd] at hce
      have hp : 0 < 2 ^ d := Nat.two_pow_pos _
      constructor
      · have b1 : mag < 2 ^ 53 * 2 ^ d := by
          rw [← Nat.pow_add]
          exact Nat.lt_of_lt_of_le hhi (Nat.pow_le_pow_right (by decide) (by omega))
        rcases Nat.lt_or_ge (2 ^ 53) K with h | h
        · have : (2 ^ 53 + 1) * 2 ^ d ≤ K * 2 ^ d := Nat.mul_le_mul_right _ h
          rw [Nat.add_mul] at this
          omega
        · exact h
      · by_cases hl : last = -1074
        · exact .inl hl
        · right
          have b1 : 2 ^ 52 * 2 ^ d ≤ mag := by
            rw [← Nat.pow_add]
            have : 52 + d = L := by omega
            rw [this]; exact hlo
          rcases Nat.lt_or_ge K (2 ^ 52) with h | h
          · have : (K + 1) * 2 ^ d ≤ 2 ^ 52 * 2 ^ d := Nat.mul_le_mul_right _ h
            rw [Nat.add_mul] at this
            omega
          · exact h
  have hR : (last - -1074).toNat * 2 ^ 52 + K < 2047 * 2 ^ 52 := by
    have := hcell.1
    clear hcell hKv hce hK hnear hlast hPL hvL hhi hlo hv hL hl52
    omega
  have hmin : min ((last - -1074).toNat * 2 ^ 52 + K) (2047 * 2 ^ 52) = (last - -1074).toNat * 2 ^ 52 + K := Nat.min_eq_left (Nat.le_of_lt hR)
  rw [hmin] at hnear
  obtain ⟨f1, f2⟩ := val_rung neg (last - -1074).toNat K hcell.1 (by rcases hcell.2 with h | h; exact .inl (by rw [h]; rfl); exact .inr h) hR
  have elast : (((last - -1074).toNat : Nat) : Int) - 1074 = last := by clear hcell hKv hce hK hnear hlast hPL hvL hhi hlo hv hL hR hmin hl52; omega
  rw [elast] at f2
  refine ⟨K, last, by rw [hnear]; exact f1, by rw [hnear]; exact f2, hl1, hl2, hcell.1, ?_, hKv.2.2, hKv.1, hKv.2.1⟩
  rcases hl52 with h | h
  · exact .inl h
  · rcases hcell.2 with h' | h'
    · exact .inl h'
    · exact .inr ⟨by rw [h]; exact hvL, h'⟩

/-! ### the answer of an operation is near the exact one -/
def u : Rat := 1 / 9007199254740992
def eta : Rat := p2 (-1075)
/-- 'r' is finite and as near to 'v' as rounding to nearest gives; M: any bound of |v|. -/
def Rnd (r : Nat) (v : Rat) : Prop := Finite r ∧ ∀ M, -M ≤ v → v ≤ M → -(u * M + eta) ≤ val r - v ∧ val r - v ≤ u * M + eta
/-- the same where nothing is lost below the least place (a sum). -/
def RndS (r : Nat) (v : Rat) : Prop := Finite r ∧ ∀ M, -M ≤ v → v ≤ M → -(u * M) ≤ val r - v ∧ val r - v ≤ u * M

theorem eta_pos : 0 < eta := p2_pos _
theorem half_p2 (e : Int) : p2 e = 2 * p2 (e - 1) := by
  have : e = (e - 1) + 1 := by omega
  rw [this, p2_add, p2_one]
  have : e - 1 + 1 - 1 = e - 1 := by omega
  rw [this]; grind
theorem p2_52 (e : Int) : p2 (e + 52) = 4503599627370496 * p2 e := by
  rw [p2_add, show (52 : Int) = ((52 : Nat) : Int) from rfl, p2_nat]
  have : ((2 ^ 52 : Nat) : Rat) = 4503599627370496 := by decide +kernel
  rw [this]; grind

theorem word_zero (neg : Bool) : Finite (double.word neg 0) ∧ val (double.word neg 0) = 0 := by
  have h := val_rung neg 0 0 (by decide) (.inl rfl) (by decide)
  simp only [Nat.zero_mul, Nat.add_zero] at h
  refine ⟨h.1, ?_⟩
  rw [h.2]
  have : ((0 : Nat) : Rat) = 0 := rfl
  rw [this]; grind

theorem sg_cases (neg : Bool) : sg neg = 1 ∨ sg neg = -1 := by cases neg <;> simp [sg]

theorem rnd_alg (a v k p M e : Rat) (ha : a = 1 ∨ a = -1) (h8 : 2 * k ≤ 2 * v + p) (h9 : 2 * v ≤ 2 * k + p) (hp : p ≤ 2 * (u * v) + 2 * e) (m1 : -M ≤ a * v) (m2 : a * v ≤ M) :
    -(u * M + e) ≤ a * k - a * v ∧ a * k - a * v ≤ u * M + e := by
  unfold u at *
  rcases ha with rfl | rfl <;> constructor <;> grind
theorem rnd_zero (a M e : Rat) (he : 0 ≤ e) (ha : a = 1 ∨ a = -1) (m1 : -M ≤ a * 0) (m2 : a * 0 ≤ M) : -(u * M + e) ≤ 0 - a * 0 ∧ 0 - a * 0 ≤ u * M + e := by
  unfold u at *
  rcases ha with rfl | rfl <;> constructor <;> grind
theorem nearest_rnd (neg : Bool) (mag : Nat) (place : Int) (hv : (mag : Rat) * p2 place < p2 1023) :
    Rnd (double.nearest neg mag place) (sg neg * ((mag : Rat) * p2 place)) := by
  by_cases hm : mag = 0
  · subst hm
    have e : double.nearest neg 0 place = double.word neg 0 := by simp [Format.nearest]
    rw [e]
    obtain ⟨h1, h2⟩ := word_zero neg
    refine ⟨h1, fun M m1 m2 => ?_⟩
    have z : ((0 : Nat) : Rat) * p2 place = 0 := Rat.zero_mul _
    rw [z] at m1 m2 ⊢
    rw [h2]
    exact rnd_zero _ _ _ (Rat.le_of_lt eta_pos) (sg_cases neg) m1 m2
  · obtain ⟨K, last, h1, h2, h3, h4, h5, h6, h7, h8, h9⟩ := nearest_core neg mag place hm hv
    refine ⟨h1, fun M m1 m2 => ?_⟩
    rw [h2]
    have hpos : 0 ≤ (mag : Rat) * p2 place := Rat.mul_nonneg Rat.natCast_nonneg (Rat.le_of_lt (p2_pos _))
    have het : p2 last ≤ 2 * (u * ((mag : Rat) * p2 place)) + 2 * eta := by
      rcases h6 with h6 | ⟨h6, _⟩
      · rw [h6, half_p2, show (-1074 - 1 : Int) = -1075 from rfl]
        unfold eta u
        have := p2_pos (-1075)
        grind
      · rw [p2_52] at h6
        have := eta_pos
        unfold u
        grind
    exact rnd_alg _ _ _ _ _ _ (sg_cases neg) h8 h9 het m1 m2

/-- Where the exact answer is a multiple of the least place nothing is lost below it. -/
theorem nearest_rndS (neg : Bool) (mag : Nat) (place : Int) (hv : (mag : Rat) * p2 place < p2 1023) (hp : -1074 ≤ place) :
    RndS (double.nearest neg mag place) (sg neg * ((mag : Rat) * p2 place)) := by
  by_cases hm : mag = 0
  · subst hm
    have e : double.nearest neg 0 place = double.word neg 0 := by simp [Format.nearest]
    rw [e]
    obtain ⟨h1, h2⟩ := word_zero neg
    refine ⟨h1, fun M m1 m2 => ?_⟩
    have z : ((0 : Nat) : Rat) * p2 place = 0 := Rat.zero_mul _
    rw [z] at m1 m2 ⊢
    rw [h2]
    have := rnd_zero _ _ 0 Rat.le_refl (sg_cases neg) m1 m2
    rwa [Rat.add_zero] at this
  · obtain ⟨K, last, h1, h2, h3, h4, h5, h6, h7, h8, h9⟩ := nearest_core neg mag place hm hv
    refine ⟨h1, fun M m1 m2 => ?_⟩
    rw [h2]
    have hpos : 0 ≤ (mag : Rat) * p2 place := Rat.mul_nonneg Rat.natCast_nonneg (Rat.le_of_lt (p2_pos _))
    rcases h6 with h6 | ⟨h6, _⟩
    · rw [h7 (by omega)]
      have := rnd_alg (sg neg) ((mag : Rat) * p2 place) ((mag : Rat) * p2 place) 0 M 0 (sg_cases neg) (by rw [Rat.add_zero]; exact Rat.le_refl) (by rw [Rat.add_zero]; exact Rat.le_refl) (by unfold u; grind) m1 m2
      rwa [Rat.add_zero] at this
    · rw [p2_52] at h6
      have := rnd_alg _ _ _ _ _ 0 (sg_cases neg) h8 h9 (by unfold u; grind) m1 m2
      rwa [Rat.add_zero] at this

/-- Exact: a number of at most 53 digits whose place is at least -1074 (and that is not too great). -/
theorem nearest_exact (neg : Bool) (mag : Nat) (place : Int) (hv : (mag : Rat) * p2 place < p2 1023) (hp : -1074 ≤ place) (hm : mag < 2 ^ 53) :
    Finite (double.nearest neg mag place) ∧ val (double.nearest neg mag place) = sg neg * ((mag : Rat) * p2 place) := by
  by_cases h0 : mag = 0
  · subst h0
    have e : double.nearest neg 0 place = double.word neg 0 := by simp [Format.nearest]
    rw [e]
    obtain ⟨h1, h2⟩ := word_zero neg
    refine ⟨h1, ?_⟩
    have z : ((0 : Nat) : Rat) = 0 := rfl
    rw [h2, z]; grind
  · obtain ⟨K, last, h1, h2, h3, h4, h5, h6, h7, h8, h9⟩ := nearest_core neg mag place h0 hv
    refine ⟨h1, ?_⟩
    rw [h2]
    have hl : last ≤ place := by
      rcases h6 with h6 | ⟨h6, _⟩
      · omega
      · have hm' : (mag : Rat) < ((2 ^ 53 : Nat) : Rat) := by exact_mod_cast hm
        have h10 : (mag : Rat) * p2 place < p2 (place + 53) := by
          rw [p2_add, show (53 : Int) = ((53 : Nat) : Int) from rfl, p2_nat]
          have := Rat.mul_lt_mul_of_pos_right hm' (p2_pos place)
          grind
        have := p2_lt_iff (show p2 (last + 52) < p2 (place + 53) by grind)
        omega
    rw [h7 hl]

/-! ### sums -/
theorem signed_val (s : Bool) (m a : Nat) (base : Int) : ((signed s m a : Int) : Rat) * p2 base = sg s * ((m : Rat) * p2 (base + a)) := by
  have e : ((m <<< a : Nat) : Rat) * p2 base = (m : Rat) * p2 (base + a) := by rw [Nat.shiftLeft_eq, nat_p2]
  cases s
  · simp only [signed, sg, Bool.false_eq_true, if_false]
    rw [Rat.intCast_natCast, e]; grind
  · simp only [signed, sg, if_true]
    rw [Rat.intCast_neg, Rat.intCast_natCast]
    grind
theorem natAbs_val (t : Int) (b : Bool) : (sg (if t = 0 then b else decide (t < 0))) * ((t.natAbs : Nat) : Rat) = (t : Rat) := by
  rcases Int.lt_trichotomy t 0 with h | h | h
  · rw [if_neg (by omega), decide_eq_true h]
    have e : (t : Rat) = -((t.natAbs : Nat) : Rat) := by
      rw [← Rat.intCast_natCast, ← Rat.intCast_neg]
      congr 1; omega
    rw [e]; simp [sg]
    grind
  · subst h
    have z : (((0 : Int).natAbs : Nat) : Rat) = 0 := rfl
    rw [z]
    have z2 : ((0 : Int) : Rat) = 0 := rfl
    rw [z2]; grind
  · rw [if_neg (by omega), decide_eq_false (by omega)]
    have e : (t : Rat) = ((t.natAbs : Nat) : Rat) := by
      rw [← Rat.intCast_natCast]
      congr 1; omega
    rw [e]; simp [sg]
theorem sum_number (s t : Bool) (m n : Nat) (i j : Int) : ∃ b k, (Datum.number s m i).sum (.number t n j) = some (.number b k (min i j)) ∧ sg b * ((k : Rat) * p2 (min i j)) = sg s * ((m : Rat) * p2 i) + sg t * ((n : Rat) * p2 j) := by
  refine ⟨_, _, rfl, ?_⟩
  generalize hT : signed s m (i - min i j).toNat + signed t n (j - min i j).toNat = T
  have h1 := signed_val s m (i - min i j).toNat (min i j)
  have h2 := signed_val t n (j - min i j).toNat (min i j)
  have e1 : min i j + ((i - min i j).toNat : Int) = i := by omega
  have e2 : min i j + ((j - min i j).toNat : Int) = j := by omega
  rw [e1] at h1
  rw [e2] at h2
  have h3 := natAbs_val T (s && t)
  have h4 : (T : Rat) = ((signed s m (i - min i j).toNat : Int) : Rat) + ((signed t n (j - min i j).toNat : Int) : Rat) := by
    rw [← hT, Rat.intCast_add]
  grind
theorem abs_alg (a v M : Rat) (ha : a = 1 ∨ a = -1) (h1 : -M < a * v) (h2 : a * v < M) : v < M := by
  rcases ha with rfl | rfl <;> grind
theorem abs_sg (b : Bool) (v M : Rat) (h1 : -M < sg b * v) (h2 : sg b * v < M) : v < M := abs_alg _ v M (sg_cases b) h1 h2
theorem add_ok (x y : Nat) (hx : Finite x) (hy : Finite y) (h1 : -p2 1023 < val x + val y) (h2 : val x + val y < p2 1023) :
    ∃ r, double.add x y = some r ∧ RndS r (val x + val y) := by
  obtain ⟨s, m, i, hr, hm, hi, hi2⟩ := read_fin x hx
  obtain ⟨t, n, j, hr', hn, hj, hj2⟩ := read_fin y hy
  obtain ⟨b, k, hs, hv⟩ := sum_number s t m n i j
  have ev : val x + val y = sg b * ((k : Rat) * p2 (min i j)) := by rw [hv]; simp [val, hr, hr', dval]
  refine ⟨double.nearest b k (min i j), ?_, ?_⟩
  · simp [Format.add, hr, hr', hs, Format.write]
  · rw [ev] at h1 h2 ⊢
    exact nearest_rndS b k (min i j) (abs_sg b _ _ h1 h2) (by omega)
theorem sub_ok (x y : Nat) (hx : Finite x) (hy : Finite y) (h1 : -p2 1023 < val x - val y) (h2 : val x - val y < p2 1023) :
    ∃ r, double.sub x y = some r ∧ RndS r (val x - val y) := by
  obtain ⟨s, m, i, hr, hm, hi, hi2⟩ := read_fin x hx
  obtain ⟨t, n, j, hr', hn, hj, hj2⟩ := read_fin y hy
  obtain ⟨b, k, hs, hv⟩ := sum_number s (!t) m n i j
  have e : sg (!t) = - sg t := by cases t <;> simp [sg]
  have ev : val x - val y = sg b * ((k : Rat) * p2 (min i j)) := by rw [hv, e]; simp [val, hr, hr', dval]; grind
  refine ⟨double.nearest b k (min i j), ?_, ?_⟩
  · simp [Format.sub, hr, hr', Datum.opposite, hs, Format.write]
  · rw [ev] at h1 h2 ⊢
    exact nearest_rndS b k (min i j) (abs_sg b _ _ h1 h2) (by omega)

/-! ### products -/
theorem sg_xor (s t : Bool) : sg (s ^^ t) = sg s * sg t := by cases s <;> cases t <;> decide +kernel
theorem mul_ok (x y : Nat) (hx : Finite x) (hy : Finite y) (h1 : -p2 1023 < val x * val y) (h2 : val x * val y < p2 1023) :
    ∃ r, double.mul x y = some r ∧ Rnd r (val x * val y) := by
  obtain ⟨s, m, i, hr, hm, hi, hi2⟩ := read_fin x hx
  obtain ⟨t, n, j, hr', hn, hj, hj2⟩ := read_fin y hy
  have ev : val x * val y = sg (s ^^ t) * (((m * n : Nat) : Rat) * p2 (i + j)) := by
    rw [sg_xor, p2_add, Rat.natCast_mul]; simp only [val, hr, hr', dval]; grind
  refine ⟨double.nearest (s ^^ t) (m * n) (i + j), ?_, ?_⟩
  · simp [Format.mul, hr, hr', Datum.product, Format.write]
  · rw [ev] at h1 h2 ⊢
    exact nearest_rnd _ _ _ (abs_sg _ _ _ h1 h2)

/-! ### the sign bit -/
def flip (x : Nat) : Nat := x ^^^ 2 ^ 63
theorem flip_eq (x : Nat) (h : x < 2 ^ 64) : flip x = if x < 2 ^ 63 then x + 2 ^ 63 else x - 2 ^ 63 := by
  unfold flip
  split
  · rename_i hx
    rw [Nat.xor_comm, Nat.add_comm]
    have := Nat.two_pow_add_eq_or_of_lt hx 1
    rw [Nat.mul_one] at this
    rw [this]
    apply Nat.eq_of_testBit_eq
    intro k
    rw [Nat.testBit_xor, Nat.testBit_or]
    by_cases hk : k = 63
    · subst hk
      have : x.testBit 63 = false := Nat.testBit_lt_two_pow hx
      rw [this]; simp
    · have : (2 ^ 63 : Nat).testBit k = false := by
        rw [Nat.testBit_two_pow]; simp; omega
      rw [this]; simp
  · rename_i hx
    obtain ⟨y, rfl⟩ : ∃ y, x = 2 ^ 63 + y := ⟨x - 2 ^ 63, by omega⟩
    have hy : y < 2 ^ 63 := by omega
    have := Nat.two_pow_add_eq_or_of_lt hy 1
    rw [Nat.mul_one] at this
    rw [show 2 ^ 63 + y - 2 ^ 63 = y by omega, this]
    apply Nat.eq_of_testBit_eq
    intro k
    rw [Nat.testBit_xor, Nat.testBit_or]
    by_cases hk : k = 63
    · subst hk
      have : y.testBit 63 = false := Nat.testBit_lt_two_pow hy
      rw [this]; simp
    · have : (2 ^ 63 : Nat).testBit k = false := by
        rw [Nat.testBit_two_pow]; simp; omega
      rw [this]; simp
theorem flip_parts (x : Nat) (h : x < 2 ^ 64) : flip x < 2 ^ 64 ∧ flip x % 2 ^ 63 = x % 2 ^ 63 ∧ (flip x / 2 ^ 63 % 2 == 1) = !(x / 2 ^ 63 % 2 == 1) := by
  rw [flip_eq x h]
  split
  · refine ⟨by omega, by omega, ?_⟩
    have e1 : (x + 2 ^ 63) / 2 ^ 63 = 1 := by omega
    have e2 : x / 2 ^ 63 = 0 := by omega
    rw [e1, e2]; rfl
  · refine ⟨by omega, by omega, ?_⟩
    have e1 : (x - 2 ^ 63) / 2 ^ 63 = 0 := by omega
    have e2 : x / 2 ^ 63 = 1 := by omega
    rw [e1, e2]; rfl
theorem read_flip (x : Nat) (h : x < 2 ^ 64) : double.read (flip x) = (double.read x).opposite := by
  obtain ⟨_, h2, h3⟩ := flip_parts x h
  by_cases c1 : x % 2 ^ 63 < 2 ^ 52
  · rw [read_lo x c1, read_lo (flip x) (by rw [h2]; exact c1), h2, h3]; rfl
  · by_cases c2 : x % 2 ^ 63 < 2047 * 2 ^ 52
    · rw [read_hi x c1 c2, read_hi (flip x) (by rw [h2]; exact c1) (by rw [h2]; exact c2), h2, h3]; rfl
    · by_cases c3 : x % 2 ^ 63 = 2047 * 2 ^ 52
      · rw [read_inf x c3, read_inf (flip x) (by rw [h2]; exact c3), h3]; rfl
      · rw [read_nan x (by omega), read_nan (flip x) (by omega), h2, h3]; rfl
theorem flip_fin (x : Nat) (h : Finite x) : Finite (flip x) := by
  obtain ⟨h1, h2, _⟩ := flip_parts x h.1
  exact ⟨h1, by rw [h2]; exact h.2⟩
theorem dval_opp (d : Datum) : dval d.opposite = - dval d := by
  cases d with
  | number s m i =>
    have e : sg (!s) = - sg s := by cases s <;> simp [sg]
    simp only [Datum.opposite, dval, e]; grind
  | infinity s => simp [Datum.opposite, dval]
  | nan s t => simp [Datum.opposite, dval]
theorem flip_val (x : Nat) (h : x < 2 ^ 64) : val (flip x) = - val x := by
  unfold val; rw [read_flip x h, dval_opp]
theorem flip_flip (x : Nat) : flip (flip x) = x := by unfold flip; rw [Nat.xor_assoc, Nat.xor_self, Nat.xor_zero]

/-- the word without its sign -/
def mag (x : Nat) : Nat := x % 2 ^ 63
theorem mag_eq (x : Nat) (h : x < 2 ^ 64) : mag x = if x < 2 ^ 63 then x else flip x := by
  unfold mag
  rw [flip_eq x h]
  split <;> omega
theorem mag_fin (x : Nat) (h : Finite x) : Finite (mag x) := by
  rw [mag_eq x h.1]; split
  · exact h
  · exact flip_fin x h
theorem val_nonneg (x : Nat) (h : x < 2 ^ 63) : 0 ≤ val x := by
  have hs : (x / 2 ^ 63 % 2 == 1) = false := by
    have : x / 2 ^ 63 = 0 := by omega
    rw [this]; rfl
  unfold val Format.read
  simp only [d_sw, hs]
  split
  · simp only [dval, sg, Bool.false_eq_true, if_false, Rat.one_mul]
    exact Rat.mul_nonneg Rat.natCast_nonneg (Rat.le_of_lt (p2_pos _))
  · split
    · simp only [dval, sg, Bool.false_eq_true, if_false, Rat.one_mul]
      exact Rat.mul_nonneg Rat.natCast_nonneg (Rat.le_of_lt (p2_pos _))
    · split <;> simp [dval]
theorem mag_val (x : Nat) (h : x < 2 ^ 64) : val (mag x) = (if 0 ≤ val x then val x else - val x) := by
  rw [mag_eq x h]
  by_cases h1 : x < 2 ^ 63
  · rw [if_pos h1, if_pos (val_nonneg x h1)]
  · rw [if_neg h1, flip_val x h]
    have h2 : flip x < 2 ^ 63 := by rw [flip_eq x h, if_neg h1]; omega
    have := val_nonneg _ h2
    rw [flip_val x h] at this
    split <;> grind
theorem mag_bounds (x : Nat) (h : x < 2 ^ 64) : 0 ≤ val (mag x) ∧ val x ≤ val (mag x) ∧ - val (mag x) ≤ val x ∧ (val (mag x) = val x ∨ val (mag x) = - val x) := by
  rw [mag_val x h]
  split <;> grind

/-! ### comparisons -/
theorem order_ok (x y : Nat) (hx : Finite x) (hy : Finite y) : double.order x y = some (if val x < val y then .lt else if val x = val y then .eq else .gt) := by
  obtain ⟨s, m, i, hr, hm, hi, hi2⟩ := read_fin x hx
  obtain ⟨t, n, j, hr', hn, hj, hj2⟩ := read_fin y hy
  simp only [Format.order, hr, hr', Datum.order]
  generalize hA : signed s m (i - min i j).toNat = A
  generalize hB : signed t n (j - min i j).toNat = B
  have h1 := signed_val s m (i - min i j).toNat (min i j)
  have h2 := signed_val t n (j - min i j).toNat (min i j)
  have e1 : min i j + ((i - min i j).toNat : Int) = i := by omega
  have e2 : min i j + ((j - min i j).toNat : Int) = j := by omega
  rw [e1, hA] at h1
  rw [e2, hB] at h2
  have vx : val x = (A : Rat) * p2 (min i j) := by rw [h1]; simp [val, hr, dval]
  have vy : val y = (B : Rat) * p2 (min i j) := by rw [h2]; simp [val, hr', dval]
  have hp := p2_pos (min i j)
  rw [vx, vy]
  have hlt : ((A : Rat) * p2 (min i j) < (B : Rat) * p2 (min i j)) ↔ A < B := by
    rw [Rat.mul_lt_mul_right hp, Rat.intCast_lt_intCast]
  have heq : ((A : Rat) * p2 (min i j) = (B : Rat) * p2 (min i j)) ↔ A = B := by
    constructor
    · intro h
      rcases Int.lt_trichotomy A B with h' | h' | h'
      · exact absurd (hlt.2 h') (by rw [h]; exact Rat.lt_irrefl)
      · exact h'
      · have : (B : Rat) * p2 (min i j) < (A : Rat) * p2 (min i j) := by
          rw [Rat.mul_lt_mul_right hp, Rat.intCast_lt_intCast]; exact h'
        exact absurd this (by rw [h]; exact Rat.lt_irrefl)
    · intro h; rw [h]
  congr 1
  simp only [compare, compareOfLessAndEq, hlt, heq]
theorem lt_ok (x y : Nat) (hx : Finite x) (hy : Finite y) : (double.order x y == some .lt) = decide (val x < val y) := by
  rw [order_ok x y hx hy]
  by_cases h : val x < val y
  · simp [h]
  · by_cases h' : val x = val y <;> simp [h, h']
theorem gt_ok (x y : Nat) (hx : Finite x) (hy : Finite y) : (double.order x y == some .gt) = decide (val y < val x) := by
  rw [order_ok x y hx hy]
  by_cases h : val x < val y
  · have : ¬ val y < val x := by grind
    simp [h, this]
  · by_cases h' : val x = val y
    · have : ¬ val y < val x := by grind
      simp [h', Rat.lt_irrefl]
    · have : val y < val x := by grind
      simp [h, h', this]
theorem eq_ok (x y : Nat) (hx : Finite x) (hy : Finite y) : (double.order x y == some .eq) = decide (val x = val y) := by
  rw [order_ok x y hx hy]
  by_cases h : val x < val y
  · have : ¬ val x = val y := by grind
    simp [h, this]
  · by_cases h' : val x = val y <;> simp [h, h', Rat.lt_irrefl]

/-! ### one row of a matrix product -/
def row3 (a b c x y z : Nat) : Option Nat := (double.mul x a).bind fun p => (double.mul y b).bind fun q => (double.add p q).bind fun s => (double.mul z c).bind fun t => double.add s t
theorem eta_le : eta ≤ 1 := by
  have : eta ≤ p2 0 := p2_le (by decide)
  rwa [p2_zero] at this
theorem p2_big : (2 : Rat) ^ 1000 * 4 < p2 1023 := by
  have e : p2 1023 = (2 : Rat) ^ 1023 := by
    unfold p2; exact Rat.zpow_natCast 2 1023
  rw [e]; decide +kernel
theorem row3_alg (a b c p q s t r mx my mz e : Rat) (he : 0 ≤ e)
    (ma : -mx ≤ a) (ma' : a ≤ mx) (mb : -my ≤ b) (mb' : b ≤ my) (mc : -mz ≤ c) (mc' : c ≤ mz)
    (hp : -(u * mx + e) ≤ p - a) (hp' : p - a ≤ u * mx + e) (hq : -(u * my + e) ≤ q - b) (hq' : q - b ≤ u * my + e)
    (hs : -(u * (mx + my + (u * mx + e) + (u * my + e))) ≤ s - (p + q)) (hs' : s - (p + q) ≤ u * (mx + my + (u * mx + e) + (u * my + e)))
    (ht : -(u * mz + e) ≤ t - c) (ht' : t - c ≤ u * mz + e)
    (hr : -(u * (2 * (mx + my + mz) + 4 * e)) ≤ r - (s + t)) (hr' : r - (s + t) ≤ u * (2 * (mx + my + mz) + 4 * e)) :
    -(5 * u * (mx + my + mz) + 5 * e) ≤ r - (a + b + c) ∧ r - (a + b + c) ≤ 5 * u * (mx + my + mz) + 5 * e := by
  unfold u at *
  constructor <;> grind
theorem row3_ok (a b c x y z : Nat) (fa : Finite a) (fb : Finite b) (fc : Finite c) (fx : Finite x) (fy : Finite y) (fz : Finite z) (mx my mz : Rat)
    (m1 : -mx ≤ val x * val a) (m2 : val x * val a ≤ mx) (m3 : -my ≤ val y * val b) (m4 : val y * val b ≤ my) (m5 : -mz ≤ val z * val c) (m6 : val z * val c ≤ mz)
    (hM : mx + my + mz ≤ 2 ^ 1000) :
    ∃ r, row3 a b c x y z = some r ∧ Finite r ∧ -(5 * u * (mx + my + mz) + 5 * eta) ≤ val r - (val x * val a + val y * val b + val z * val c) ∧ val r - (val x * val a + val y * val b + val z * val c) ≤ 5 * u * (mx + my + mz) + 5 * eta := by
  have hbig := p2_big
  have he := eta_le
  have he0 := Rat.le_of_lt eta_pos
  have h1000 : (1 : Rat) ≤ 2 ^ 1000 := by decide +kernel
  obtain ⟨p, ep, fp, bp⟩ := mul_ok x a fx fa (by grind) (by grind)
  obtain ⟨p1, p2'⟩ := bp mx m1 m2
  obtain ⟨q, eq, fq, bq⟩ := mul_ok y b fy fb (by grind) (by grind)
  obtain ⟨q1, q2⟩ := bq my m3 m4
  obtain ⟨t, et, ft, bt⟩ := mul_ok z c fz fc (by grind) (by grind)
  obtain ⟨t1, t2⟩ := bt mz m5 m6
  have hu : u ≤ 1 / 2 := by unfold u; grind
  have hu0 : 0 ≤ u := by unfold u; grind
  have um : ∀ m : Rat, 0 ≤ m → u * m ≤ 1 / 2 * m := fun m hm => Rat.mul_le_mul_of_nonneg_right hu hm
  have ux := um mx (by grind)
  have uy := um my (by grind)
  have uz := um mz (by grind)
  obtain ⟨s, es, fs, bs⟩ := add_ok p q fp fq (by grind) (by grind)
  obtain ⟨s1, s2⟩ := bs (mx + my + (u * mx + eta) + (u * my + eta)) (by grind) (by grind)
  have us := um (mx + my + (u * mx + eta) + (u * my + eta)) (by
    have := Rat.mul_nonneg hu0 (show (0 : Rat) ≤ mx by grind)
    have := Rat.mul_nonneg hu0 (show (0 : Rat) ≤ my by grind)
    grind)
  have hst : -(2 * (mx + my + mz) + 4 * eta) ≤ val s + val t ∧ val s + val t ≤ 2 * (mx + my + mz) + 4 * eta := by
    have v1 : u * mx ≤ 1 / 1000 * mx := Rat.mul_le_mul_of_nonneg_right (by unfold u; grind) (by grind)
    have v2 : u * my ≤ 1 / 1000 * my := Rat.mul_le_mul_of_nonneg_right (by unfold u; grind) (by grind)
    have v3 : u * mz ≤ 1 / 1000 * mz := Rat.mul_le_mul_of_nonneg_right (by unfold u; grind) (by grind)
    have v4 : u * (mx + my + (u * mx + eta) + (u * my + eta)) ≤ 1 / 1000 * (mx + my + (u * mx + eta) + (u * my + eta)) := Rat.mul_le_mul_of_nonneg_right (by unfold u; grind) (by
      have := Rat.mul_nonneg hu0 (show (0 : Rat) ≤ mx by grind)
      have := Rat.mul_nonneg hu0 (show (0 : Rat) ≤ my by grind)
      grind)
    generalize u * (mx + my + (u * mx + eta) + (u * my + eta)) = U at *
    generalize u * mx = U1 at *
    generalize u * my = U2 at *
    generalize u * mz = U3 at *
    clear hbig h1000 bp bq bt bs um ux uy uz us
    constructor <;> grind
  obtain ⟨r, er, fr, br⟩ := add_ok s t fs ft (by grind) (by grind)
  obtain ⟨r1, r2⟩ := br (2 * (mx + my + mz) + 4 * eta) hst.1 hst.2
  refine ⟨r, by simp [row3, ep, eq, es, et, er], fr, ?_⟩
  exact row3_alg _ _ _ _ _ _ _ _ _ _ _ eta he0 m1 m2 m3 m4 m5 m6 p1 p2' q1 q2 s1 s2 t1 t2 r1 r2

/-! ### tests in the program's words -/
def ltB (x y : Nat) : Bool := double.order x y == some .lt
def gtB (x y : Nat) : Bool := double.order x y == some .gt
def eqB (x y : Nat) : Bool := double.order x y == some .eq
def leB (x y : Nat) : Bool := double.order x y == some .lt || double.order x y == some .eq
def geB (x y : Nat) : Bool := double.order x y == some .gt || double.order x y == some .eq
theorem ltB_ok {x y : Nat} (hx : Finite x) (hy : Finite y) : ltB x y = decide (val x < val y) := lt_ok x y hx hy
theorem gtB_ok {x y : Nat} (hx : Finite x) (hy : Finite y) : gtB x y = decide (val y < val x) := gt_ok x y hx hy
theorem eqB_ok {x y : Nat} (hx : Finite x) (hy : Finite y) : eqB x y = decide (val x = val y) := eq_ok x y hx hy
theorem leB_ok {x y : Nat} (hx : Finite x) (hy : Finite y) : leB x y = decide (val x ≤ val y) := by
  unfold leB
  rw [lt_ok x y hx hy, eq_ok x y hx hy]
  by_cases h : val x ≤ val y
  · rcases Rat.le_iff_lt_or_eq.1 h with h1 | h1 <;> simp [h, h1]
  · have h1 : ¬ val x < val y := by grind
    have h2 : ¬ val x = val y := by grind
    simp [h, h1, h2]
theorem geB_ok {x y : Nat} (hx : Finite x) (hy : Finite y) : geB x y = decide (val y ≤ val x) := by
  unfold geB
  rw [gt_ok x y hx hy, eq_ok x y hx hy]
  by_cases h : val y ≤ val x
  · rcases Rat.le_iff_lt_or_eq.1 h with h1 | h1
    · simp [h, h1]
    · simp [h1]
  · have h1 : ¬ val y < val x := by grind
    have h2 : ¬ val x = val y := by grind
    simp [h, h1, h2]
/-- between two finite words there is nothing but finite words -/
theorem finite_between {x lo hi : Nat} (hx : x < 2 ^ 64) (fl : Finite lo) (fh : Finite hi) (h1 : geB x lo = true) (h2 : leB x hi = true) : Finite x ∧ val lo ≤ val x ∧ val x ≤ val hi := by
  have key : Finite x := by
    refine ⟨hx, ?_⟩
    rcases Nat.lt_trichotomy (x % 2 ^ 63) (2047 * 2 ^ 52) with h | h | h
    · exact h
    · exfalso
      obtain ⟨s, m, i, hr, -, -, -⟩ := read_fin lo fl
      obtain ⟨t, n, j, hr', -, -, -⟩ := read_fin hi fh
      unfold geB Format.order at h1
      unfold leB Format.order at h2
      rw [read_inf x h, hr] at h1
      rw [read_inf x h, hr'] at h2
      simp only [Datum.order] at h1 h2
      cases hb : (x / 2 ^ 63 % 2 == 1) <;> simp [hb] at h1 h2
    · exfalso
      unfold geB Format.order at h1
      rw [read_nan x h] at h1
      simp [Datum.order] at h1
  refine ⟨key, ?_, ?_⟩
  · rw [geB_ok key fl] at h1; simpa using h1
  · rw [leB_ok key fh] at h2; simpa using h2
/-- the absolute value as 'if v < 0 { v = -v }' gives it -/
def absW (x : Nat) : Nat := if ltB x 0 then flip x else x
theorem fin_zero : Finite 0 := by decide +kernel
theorem val_zero : val 0 = 0 := by decide +kernel
theorem absW_ok {x : Nat} (h : Finite x) : Finite (absW x) ∧ 0 ≤ val (absW x) ∧ val x ≤ val (absW x) ∧ - val x ≤ val (absW x) ∧ (val (absW x) = val x ∨ val (absW x) = - val x) := by
  unfold absW
  rw [ltB_ok h fin_zero, val_zero]
  by_cases h0 : val x < 0
  · simp only [h0, decide_true, if_true]
    rw [flip_val x h.1]
    exact ⟨flip_fin x h, by grind, by grind, by grind, .inr rfl⟩
  · simp only [h0, decide_false]
    exact ⟨h, by simp; grind, by simp, by simp; grind, .inl (by simp)⟩
end FL
