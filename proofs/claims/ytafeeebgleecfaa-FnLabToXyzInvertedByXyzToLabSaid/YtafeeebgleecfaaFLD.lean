/-
  Plain facts on IEEE double words, continued: rounding hangs on the exact value alone; it is odd, and it doubles with the value.
-/
import Derived.Test.YtafeeebgleecfaaFLC
namespace FL
open Ieee
set_option linter.unusedVariables false

/-- What the nearest word to 'mag * 2 ^ place' is worth. -/
theorem nearest_full (neg : Bool) (mag : Nat) (place : Int) (hm : mag ≠ 0) (hv : (mag : Rat) * p2 place < p2 1023) :
    ∃ (K : Nat) (last : Int), last = max (place + mag.log2 - 52) (-1074) ∧ K = Toward.even.cut false (mag <<< (place - last).toNat) (last - place).toNat ∧ Finite (double.nearest neg mag place) ∧ val (double.nearest neg mag place) = sg neg * ((K : Rat) * p2 last) ∧ -1074 ≤ last ∧ last ≤ 970 ∧ K ≤ 2 ^ 53 ∧
      (last = -1074 ∨ (p2 (last + 52) ≤ (mag : Rat) * p2 place ∧ 2 ^ 52 ≤ K)) ∧ (last ≤ place → (K : Rat) * p2 last = (mag : Rat) * p2 place) ∧
      2 * ((K : Rat) * p2 last) ≤ 2 * ((mag : Rat) * p2 place) + p2 last ∧ 2 * ((mag : Rat) * p2 place) ≤ 2 * ((K : Rat) * p2 last) + p2 last := by
  obtain ⟨L, hL⟩ : ∃ L, L = mag.log2 := ⟨_, rfl⟩
  have hlo : 2 ^ L ≤ mag := by rw [hL]; exact Nat.log2_self_le hm
  have hhi : mag < 2 ^ (L + 1) := by rw [hL]; exact Nat.lt_log2_self
  have hvL : p2 (place + L) ≤ (mag : Rat) * p2 place := by
    rw [p2_add, p2_nat]
    have h1 : ((2 ^ L : Nat) : Rat) ≤ (mag : Rat) := by exact_mod_cast hlo
    have := Rat.mul_le_mul_of_nonneg_right h1 (Rat.le_of_lt (p2_pos place))
    grind
  have hPL : place + L < 1023 := p2_lt_iff (by grind)
  obtain ⟨last, hlast⟩ : ∃ last, last = max (place + L - 52) (-1074) := ⟨_, rfl⟩
  have hl52 : last = -1074 ∨ last + 52 = place + L := by omega
  have hl1 : -1074 ≤ last := by omega
  have hl2 : last ≤ 970 := by omega
  obtain ⟨K, hK⟩ : ∃ K, K = Toward.even.cut neg (mag <<< (place - last).toNat) (last - place).toNat := ⟨_, rfl⟩
  have hnear : double.nearest neg mag place = double.word neg (min ((last - -1074).toNat * 2 ^ 52 + K) (2047 * 2 ^ 52)) := by
    unfold Format.nearest
    rw [if_neg hm]
    simp only [d_lp, d_bin, d_inf]
    rw [← hL, hK, hlast]
    rfl
  have hce := cut_even neg (mag <<< (place - last).toNat) (last - place).toNat
  rw [← hK, Nat.shiftLeft_eq] at hce
  -- the two cases: digits are appended, or dropped
  have hKv : 2 * ((K : Rat) * p2 last) ≤ 2 * ((mag : Rat) * p2 place) + p2 last ∧ 2 * ((mag : Rat) * p2 place) ≤ 2 * ((K : Rat) * p2 last) + p2 last ∧ (last ≤ place → (K : Rat) * p2 last = (mag : Rat) * p2 place) := by
    by_cases hc : last ≤ place
    · have e0 : (last - place).toNat = 0 := by omega
      rw [e0] at hK
      rw [cut_zero, Nat.shiftLeft_eq] at hK
      have : (K : Rat) * p2 last = (mag : Rat) * p2 place := by
        rw [hK, nat_p2]; congr 2; omega
      have hp := p2_pos last
      refine ⟨by grind, by grind, fun _ => this⟩
    · have e0 : (place - last).toNat = 0 := by omega
      rw [e0, Nat.pow_zero, Nat.mul_one] at hce
      obtain ⟨d, hd⟩ : ∃ d, d = (last - place).toNat := ⟨_, rfl⟩
      rw [← hd] at hce
      have e1 : last = place + d := by omega
      have hq : ((K * 2 ^ d : Nat) : Rat) * p2 place = (K : Rat) * p2 last := by rw [nat_p2, e1]
      have hq2 : ((2 ^ d : Nat) : Rat) * p2 place = p2 last := by rw [e1, p2_add, p2_nat]; grind
      have hp := Rat.le_of_lt (p2_pos place)
      have c1 : (((2 * (K * 2 ^ d) : Nat)) : Rat) ≤ ((2 * mag + 2 ^ d : Nat) : Rat) := by exact_mod_cast hce.1
      have c2 : ((2 * mag : Nat) : Rat) ≤ ((2 * (K * 2 ^ d) + 2 ^ d : Nat) : Rat) := by exact_mod_cast hce.2
      have d1 := Rat.mul_le_mul_of_nonneg_right c1 hp
      have d2 := Rat.mul_le_mul_of_nonneg_right c2 hp
      rw [Rat.natCast_mul, Rat.natCast_add, Rat.natCast_mul] at d1
      rw [Rat.natCast_mul, Rat.natCast_add, Rat.natCast_mul] at d2
      have t2 : ((2 : Nat) : Rat) = 2 := rfl
      rw [t2] at d1 d2
      refine ⟨by grind, by grind, fun h => absurd h hc⟩
  -- the kept digits' bounds
  have hcell : K ≤ 2 ^ 53 ∧ (last = -1074 ∨ 2 ^ 52 ≤ K) := by
    by_cases hc : last ≤ place
    · have e0 : (last - place).toNat = 0 := by omega
      rw [e0, Nat.pow_zero] at hce
      obtain ⟨a, ha⟩ : ∃ a, a = (place - last).toNat := ⟨_, rfl⟩
      rw [← ha] at hce
      have hKa : K = mag * 2 ^ a := by omega
      have b1 : mag * 2 ^ a < 2 ^ (L + 1) * 2 ^ a := Nat.mul_lt_mul_of_pos_right hhi (Nat.two_pow_pos _)
      rw [← Nat.pow_add] at b1
      have b2 : 2 ^ (L + 1 + a) ≤ 2 ^ 53 := Nat.pow_le_pow_right (by decide) (by omega)
      refine ⟨by omega, ?_⟩
      by_cases hl : last = -1074
      · exact .inl hl
      · right
        have b3 : 2 ^ L * 2 ^ a ≤ mag * 2 ^ a := Nat.mul_le_mul_right _ hlo
        rw [← Nat.pow_add] at b3
        have b4 : 2 ^ 52 ≤ 2 ^ (L + a) := Nat.pow_le_pow_right (by decide) (by omega)
        omega
    · have e0 : (place - last).toNat = 0 := by omega
      rw [e0, Nat.pow_zero, Nat.mul_one] at hce
      obtain ⟨d, hd⟩ : ∃ d, d = (last - place).toNat := ⟨_, rfl⟩
      rw [← hd] at hce
      have hp : 0 < 2 ^ d := Nat.two_pow_pos _
      constructor
      · have b1 : mag < 2 ^ 53 * 2 ^ d := by
          rw [← Nat.pow_add]
          exact Nat.lt_of_lt_of_le hhi (Nat.pow_le_pow_right (by decide) (by omega))
        rcases Nat.lt_or_ge (2 ^ 53) K with h | h
        · have : (2 ^ 53 + 1) * 2 ^ d ≤ K * 2 ^ d := Nat.mul_le_mul_right _ h
          rw [Nat.add_mul] at this
          omega
        · exact h
      · by_cases hl : last = -1074
        · exact .inl hl
        · right
          have b1 : 2 ^ 52 * 2 ^ d ≤ mag := by
            rw [← Nat.pow_add]
            have : 52 + d = L := by omega
            rw [this]; exact hlo
          rcases Nat.lt_or_ge K (2 ^ 52) with h | h
          · have : (K + 1) * 2 ^ d ≤ 2 ^ 52 * 2 ^ d := Nat.mul_le_mul_right _ h
            rw [Nat.add_mul] at this
            omega
          · exact h
  have hR : (last - -1074).toNat * 2 ^ 52 + K < 2047 * 2 ^ 52 := by
    have := hcell.1
    clear hcell hKv hce hK hnear hlast hPL hvL hhi hlo hv hL hl52
    omega
  have hmin : min ((last - -1074).toNat * 2 ^ 52 + K) (2047 * 2 ^ 52) = (last - -1074).toNat * 2 ^ 52 + K := Nat.min_eq_left (Nat.le_of_lt hR)
  rw [hmin] at hnear
  obtain ⟨f1, f2⟩ := val_rung neg (last - -1074).toNat K hcell.1 (by rcases hcell.2 with h | h; exact .inl (by rw [h]; rfl); exact .inr h) hR
  have elast : (((last - -1074).toNat : Nat) : Int) - 1074 = last := by clear hcell hKv hce hK hnear hlast hPL hvL hhi hlo hv hL hR hmin hl52; omega
  rw [elast] at f2
  refine ⟨K, last, by rw [hlast, hL], hK, by rw [hnear]; exact f1, by rw [hnear]; exact f2, hl1, hl2, hcell.1, ?_, hKv.2.2, hKv.1, hKv.2.1⟩
  rcases hl52 with h | h
  · exact .inl h
  · rcases hcell.2 with h' | h'
    · exact .inl h'
    · exact .inr ⟨by rw [h]; exact hvL, h'⟩


/-! ### the cut, without its bound -/
theorem cut_plain (n drop : Nat) : Toward.even.cut false n drop = n / 2 ^ drop + (if 2 ^ drop < 2 * (n % 2 ^ drop) ∨ (2 ^ drop = 2 * (n % 2 ^ drop) ∧ n / 2 ^ drop % 2 = 1) then 1 else 0) := by
  unfold Toward.cut
  simp only [Nat.one_shiftLeft]
  by_cases h : drop ≤ n.log2 + 2
  · rw [Nat.min_eq_left h]
    by_cases c : 2 ^ drop < 2 * (n % 2 ^ drop) ∨ (2 ^ drop = 2 * (n % 2 ^ drop) ∧ n / 2 ^ drop % 2 = 1)
    · rw [if_pos c]
      congr 1
      have : (decide (2 ^ drop < 2 * (n % 2 ^ drop)) || (2 ^ drop == 2 * (n % 2 ^ drop) && n / 2 ^ drop % 2 == 1)) = true := by simpa using c
      rw [this]; rfl
    · rw [if_neg c]
      congr 1
      have : (decide (2 ^ drop < 2 * (n % 2 ^ drop)) || (2 ^ drop == 2 * (n % 2 ^ drop) && n / 2 ^ drop % 2 == 1)) = false := by
        rw [Bool.eq_false_iff]
        intro hc
        exact c (by simpa using hc)
      rw [this]; rfl
  · have hn : n < 2 ^ (n.log2 + 1) := Nat.lt_log2_self
    have h2 : 2 ^ (n.log2 + 2) = 2 * 2 ^ (n.log2 + 1) := by rw [Nat.pow_succ, Nat.mul_comm]
    have h3 : 2 ^ (n.log2 + 2) ≤ 2 ^ drop := Nat.pow_le_pow_right (by decide) (by omega)
    rw [Nat.min_eq_right (by omega)]
    have hq : n / 2 ^ (n.log2 + 2) = 0 := Nat.div_eq_of_lt (by omega)
    have hr : n % 2 ^ (n.log2 + 2) = n := Nat.mod_eq_of_lt (by omega)
    have hq' : n / 2 ^ drop = 0 := Nat.div_eq_of_lt (by omega)
    have hr' : n % 2 ^ drop = n := Nat.mod_eq_of_lt (by omega)
    rw [hq, hr, hq', hr', if_neg (by omega)]
    have hf : (decide (2 ^ (n.log2 + 2) < 2 * n) || (2 ^ (n.log2 + 2) == 2 * n && 0 % 2 == 1)) = false := by
      simp; omega
    rw [hf]; rfl
theorem cut_double (m d : Nat) : Toward.even.cut false (2 * m) (d + 1) = Toward.even.cut false m d := by
  rw [cut_plain, cut_plain]
  have hp : 0 < 2 ^ d := Nat.two_pow_pos _
  have e : 2 ^ (d + 1) = 2 * 2 ^ d := by rw [Nat.pow_succ, Nat.mul_comm]
  have e1 : 2 * m / 2 ^ (d + 1) = m / 2 ^ d := by rw [e]; exact Nat.mul_div_mul_left _ _ (by decide)
  have e2 : 2 * m % 2 ^ (d + 1) = 2 * (m % 2 ^ d) := by rw [e]; exact Nat.mul_mod_mul_left _ _ _
  rw [e1, e2, e]
  generalize 2 ^ d = g at *
  generalize m % g = r at *
  generalize m / g = q at *
  congr 1
  by_cases c : g < 2 * r ∨ (g = 2 * r ∧ q % 2 = 1)
  · rw [if_pos c, if_pos (by omega)]
  · rw [if_neg c, if_neg (by omega)]

theorem rungOf_double (m : Nat) (p : Int) : rungOf (2 * m) p = rungOf m (p + 1) := by
  unfold rungOf
  by_cases hm : m = 0
  · subst hm; simp
  · rw [if_neg hm, if_neg (by omega), Nat.log2_two_mul hm]
    simp only []
    have el : p + ((m.log2 + 1 : Nat) : Int) - 52 = p + 1 + (m.log2 : Int) - 52 := by omega
    rw [el]
    generalize max (p + 1 + (m.log2 : Int) - 52) (-1074) = last
    congr 2
    by_cases hc : last ≤ p
    · have a1 : (last - p).toNat = 0 := by omega
      have a2 : (last - (p + 1)).toNat = 0 := by omega
      have a3 : (p + 1 - last).toNat = (p - last).toNat + 1 := by omega
      rw [a1, a2, a3, Nat.shiftLeft_eq, Nat.shiftLeft_eq, Nat.pow_succ]
      congr 1
      rw [Nat.mul_comm 2 m, Nat.mul_assoc, Nat.mul_comm 2 (2 ^ _)]
    · have a1 : (p - last).toNat = 0 := by omega
      have a2 : (p + 1 - last).toNat = 0 := by omega
      have a3 : (last - p).toNat = (last - (p + 1)).toNat + 1 := by omega
      rw [a1, a2, a3]
      simp only [Nat.shiftLeft_zero]
      exact cut_double m _
theorem rungOf_shift (m k : Nat) (p : Int) : rungOf (m * 2 ^ k) p = rungOf m (p + k) := by
  induction k generalizing p with
  | zero => simp
  | succ k ih =>
    rw [Nat.pow_succ, ← Nat.mul_assoc, Nat.mul_comm, rungOf_double, ih]
    congr 1; omega
theorem rungOf_congr (m m' : Nat) (p p' : Int) (h : (m : Rat) * FL.p2 p = (m' : Rat) * FL.p2 p') : rungOf m p = rungOf m' p' := by
  have key : ∀ (m m' : Nat) (p : Int) (k : Nat), (m : Rat) * FL.p2 p = (m' : Rat) * FL.p2 (p + k) → rungOf m p = rungOf m' (p + k) := by
    intro m m' p k h
    rw [← rungOf_shift]
    congr 1
    rw [← nat_p2] at h
    have hp := p2_pos p
    have : (m : Rat) = ((m' * 2 ^ k : Nat) : Rat) := by
      rcases Rat.le_total (a := (m : Rat)) (b := ((m' * 2 ^ k : Nat) : Rat)) with h1 | h1
      · exact Rat.le_antisymm h1 (Rat.le_of_mul_le_mul_right (by rw [h]; exact Rat.le_refl) hp)
      · exact Rat.le_antisymm (Rat.le_of_mul_le_mul_right (by rw [h]; exact Rat.le_refl) hp) h1
    exact Rat.natCast_inj.1 this
  rcases (by omega : p ≤ p' ∨ p' ≤ p) with hp | hp
  · obtain ⟨k, rfl⟩ := Int.le.dest hp
    exact key m m' p k h
  · obtain ⟨k, rfl⟩ := Int.le.dest hp
    exact (key m' m p' k h.symm).symm

/-! ### rounding of negated and of doubled values -/
theorem word_neg (b : Bool) (r : Nat) (h : r < 2 ^ 63) : double.word (!b) r = flip (double.word b r) := by
  obtain ⟨h1, h2, h3⟩ := word_lt b r h
  rw [flip_eq _ h1]
  unfold Format.word
  rw [d_sw]
  cases b
  · simp [h]; omega
  · simp; omega
theorem nearest_neg (b : Bool) (m : Nat) (p : Int) : val (double.nearest (!b) m p) = - val (double.nearest b m p) := by
  have hr := rungOf_le m p
  rw [nearest_word, nearest_word, word_neg b _ (by omega), flip_val _ (word_lt b _ (by omega)).1]
theorem val_zero_word (b : Bool) : val (double.word b 0) = 0 := (word_zero b).2
theorem rungOf_zero (p : Int) : rungOf 0 p = 0 := by simp [rungOf]
theorem sg_pos_eq {b b' : Bool} {x y : Rat} (hx : 0 ≤ x) (hy : 0 ≤ y) (h : sg b * x = sg b' * y) : x = y ∧ (x = 0 ∨ b = b') := by
  cases b <;> cases b' <;> simp only [sg, if_true, Bool.false_eq_true, if_false] at h
  · exact ⟨by grind, .inr rfl⟩
  · exact ⟨by grind, .inl (by grind)⟩
  · exact ⟨by grind, .inl (by grind)⟩
  · exact ⟨by grind, .inr rfl⟩
theorem mp_nonneg (m : Nat) (p : Int) : 0 ≤ (m : Rat) * p2 p := Rat.mul_nonneg Rat.natCast_nonneg (Rat.le_of_lt (p2_pos p))
theorem mp_zero {m : Nat} {p : Int} (h : (m : Rat) * p2 p = 0) : m = 0 := by
  rcases Rat.mul_eq_zero.1 h with h1 | h1
  · exact Rat.natCast_eq_zero_iff.1 h1
  · exact absurd h1 (Rat.ne_of_gt (p2_pos p))
/-- what is written hangs on the exact value alone -/
theorem nearest_congr {b b' : Bool} {m m' : Nat} {p p' : Int} (h : sg b * ((m : Rat) * p2 p) = sg b' * ((m' : Rat) * p2 p')) : val (double.nearest b m p) = val (double.nearest b' m' p') := by
  obtain ⟨h1, h2⟩ := sg_pos_eq (mp_nonneg m p) (mp_nonneg m' p') h
  rcases h2 with h2 | h2
  · have e1 := mp_zero h2
    have e2 := mp_zero (h1 ▸ h2)
    subst e1 e2
    rw [nearest_word, nearest_word, rungOf_zero, rungOf_zero, val_zero_word, val_zero_word]
  · subst h2
    rw [nearest_word, nearest_word, rungOf_congr m m' p p' h1]
theorem nearest_dbl (b : Bool) (m : Nat) (p : Int) (hv : (m : Rat) * p2 p < p2 1022) (hc : -1074 ≤ p ∨ m = 0 ∨ p2 (-1022) ≤ (m : Rat) * p2 p) :
    val (double.nearest b m (p + 1)) = 2 * val (double.nearest b m p) := by
  by_cases hm : m = 0
  · subst hm
    rw [nearest_word, nearest_word, rungOf_zero, rungOf_zero, val_zero_word]; grind
  · have hdd : (m : Rat) * p2 (p + 1) = 2 * ((m : Rat) * p2 p) := by rw [p2_add, p2_one]; grind
    have h1023 : p2 1023 = 2 * p2 1022 := half_p2 1023
    have hpos := p2_pos 1022
    obtain ⟨K, last, el, eK, -, ev, l1, l2, -, c6, c7, -, -⟩ := nearest_full b m p hm (by grind)
    obtain ⟨K', last', el', eK', -, ev', l1', l2', -, c6', c7', -, -⟩ := nearest_full b m (p + 1) hm (by rw [hdd]; grind)
    rw [ev, ev']
    by_cases hcl : -1022 ≤ p + (m.log2 : Int)
    · have e1 : last' = last + 1 := by omega
      have e2 : K' = K := by
        rw [eK, eK', e1]
        have a1 : p + 1 - (last + 1) = p - last := by omega
        have a2 : last + 1 - (p + 1) = last - p := by omega
        rw [a1, a2]
      rw [e1, e2, p2_add, p2_one]; grind
    · have hlt : (m : Rat) * p2 p < p2 (-1022) := by
        have h1 : m < 2 ^ (m.log2 + 1) := Nat.lt_log2_self
        have h2 : (m : Rat) < ((2 ^ (m.log2 + 1) : Nat) : Rat) := by exact_mod_cast h1
        have h3 := Rat.mul_lt_mul_of_pos_right h2 (p2_pos p)
        have h4 : ((2 ^ (m.log2 + 1) : Nat) : Rat) * p2 p = p2 (p + ((m.log2 + 1 : Nat) : Int)) := by rw [p2_add, p2_nat]; grind
        have h5 : p2 (p + ((m.log2 + 1 : Nat) : Int)) ≤ p2 (-1022) := p2_le (by omega)
        grind
      have hp : -1074 ≤ p := by
        rcases hc with h | h | h
        · exact h
        · exact absurd h hm
        · grind
      have e1 : last = -1074 := by omega
      have e2 : last' = -1074 := by omega
      rw [c7 (by omega), c7' (by omega), hdd]; grind

/-! ### the operations -/
theorem add_form {x y : Nat} (hx : Finite x) (hy : Finite y) : ∃ b k i, double.add x y = some (double.nearest b k i) ∧ -1074 ≤ i ∧ val x + val y = sg b * ((k : Rat) * p2 i) := by
  obtain ⟨s, m, i, hr, -, hi, -⟩ := read_fin x hx
  obtain ⟨t, n, j, hr', -, hj, -⟩ := read_fin y hy
  obtain ⟨b, k, hs, hv⟩ := sum_number s t m n i j
  refine ⟨b, k, min i j, ?_, by omega, by rw [hv]; simp [val, hr, hr', dval]⟩
  simp [Format.add, hr, hr', hs, Format.write]
theorem mul_form {x y : Nat} (hx : Finite x) (hy : Finite y) : ∃ b k i, double.mul x y = some (double.nearest b k i) ∧ val x * val y = sg b * ((k : Rat) * p2 i) := by
  obtain ⟨s, m, i, hr, -, hi, -⟩ := read_fin x hx
  obtain ⟨t, n, j, hr', -, hj, -⟩ := read_fin y hy
  refine ⟨s ^^ t, m * n, i + j, by simp [Format.mul, hr, hr', Datum.product, Format.write], ?_⟩
  rw [sg_xor, p2_add, Rat.natCast_mul]; simp only [val, hr, hr', dval]; grind
theorem sg_not (b : Bool) : sg (!b) = - sg b := by cases b <;> simp [sg]
theorem add_neg {x y x' y' r r' : Nat} (hx : Finite x) (hy : Finite y) (hx' : Finite x') (hy' : Finite y') (h : double.add x y = some r) (h' : double.add x' y' = some r') (hs : val x' + val y' = -(val x + val y)) : val r' = - val r := by
  obtain ⟨b, k, i, e, -, v⟩ := add_form hx hy
  obtain ⟨b', k', i', e', -, v'⟩ := add_form hx' hy'
  replace e := Option.some.inj (h.symm.trans e)
  replace e' := Option.some.inj (h'.symm.trans e')
  rw [e, e', ← nearest_neg]
  apply nearest_congr
  rw [← v', hs, v, sg_not]; grind
theorem mul_neg {x y x' y' r r' : Nat} (hx : Finite x) (hy : Finite y) (hx' : Finite x') (hy' : Finite y') (h : double.mul x y = some r) (h' : double.mul x' y' = some r') (hs : val x' * val y' = -(val x * val y)) : val r' = - val r := by
  obtain ⟨b, k, i, e, v⟩ := mul_form hx hy
  obtain ⟨b', k', i', e', v'⟩ := mul_form hx' hy'
  replace e := Option.some.inj (h.symm.trans e)
  replace e' := Option.some.inj (h'.symm.trans e')
  rw [e, e', ← nearest_neg]
  apply nearest_congr
  rw [← v', hs, v, sg_not]; grind
theorem dbl_exp (b : Bool) (k : Nat) (i : Int) : sg b * ((k : Rat) * p2 (i + 1)) = 2 * (sg b * ((k : Rat) * p2 i)) := by
  rw [p2_add, p2_one]; grind
theorem add_dbl {x y x' y' r r' : Nat} (hx : Finite x) (hy : Finite y) (hx' : Finite x') (hy' : Finite y') (h : double.add x y = some r) (h' : double.add x' y' = some r') (hs : val x' + val y' = 2 * (val x + val y)) (M : Rat) (hM : M ≤ p2 1022) (h1 : -M < val x + val y) (h2 : val x + val y < M) : val r' = 2 * val r := by
  obtain ⟨b, k, i, e, hi, v⟩ := add_form hx hy
  obtain ⟨b', k', i', e', -, v'⟩ := add_form hx' hy'
  replace e := Option.some.inj (h.symm.trans e)
  replace e' := Option.some.inj (h'.symm.trans e')
  rw [v] at h1 h2
  have hlt : (k : Rat) * p2 i < p2 1022 := by
    have := abs_sg b ((k : Rat) * p2 i) M h1 h2
    grind
  rw [e, e', ← nearest_dbl b k i hlt (.inl hi)]
  apply nearest_congr
  rw [← v', hs, v, dbl_exp]
theorem mul_dbl {x y x' y' r r' : Nat} (hx : Finite x) (hy : Finite y) (hx' : Finite x') (hy' : Finite y') (h : double.mul x y = some r) (h' : double.mul x' y' = some r') (hs : val x' * val y' = 2 * (val x * val y)) (M : Rat) (hM : M ≤ p2 1022) (h1 : -M < val x * val y) (h2 : val x * val y < M)
    (hc : val x * val y = 0 ∨ p2 (-1022) ≤ val x * val y ∨ val x * val y ≤ -p2 (-1022)) : val r' = 2 * val r := by
  obtain ⟨b, k, i, e, v⟩ := mul_form hx hy
  obtain ⟨b', k', i', e', v'⟩ := mul_form hx' hy'
  replace e := Option.some.inj (h.symm.trans e)
  replace e' := Option.some.inj (h'.symm.trans e')
  rw [v] at h1 h2 hc
  have hk := mp_nonneg k i
  have hc' : -1074 ≤ i ∨ k = 0 ∨ p2 (-1022) ≤ (k : Rat) * p2 i := by
    have hp := p2_pos (-1022)
    rcases sg_cases b with hb | hb <;> rw [hb] at hc
    · rcases hc with h0 | h0 | h0
      · exact .inr (.inl (mp_zero (p := i) (by grind)))
      · exact .inr (.inr (by grind))
      · exact .inr (.inr (by grind))
    · rcases hc with h0 | h0 | h0
      · exact .inr (.inl (mp_zero (p := i) (by grind)))
      · exact .inr (.inr (by grind))
      · exact .inr (.inr (by grind))
  have hlt : (k : Rat) * p2 i < p2 1022 := by
    have := abs_sg b ((k : Rat) * p2 i) M h1 h2
    grind
  rw [e, e', ← nearest_dbl b k i hlt hc']
  apply nearest_congr
  rw [← v', hs, v, dbl_exp]
end FL
