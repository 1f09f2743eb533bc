/-
  Plain facts on IEEE double words, continued: answers that are exact; every quotient of finite words has an answer.
-/
import Derived.Test.YtafeeebgleecfaaFLE
namespace FL
open Ieee
set_option linter.unusedVariables false
theorem le_of_eq' {a b : Rat} (h : a = b) : a ≤ b := by rw [h]; exact Rat.le_refl

/-- 'v' is a number of at most 53 digits -/
def Exact (v : Rat) : Prop := ∃ (b : Bool) (c : Nat) (f : Int), v = sg b * ((c : Rat) * p2 f) ∧ c < 2 ^ 53 ∧ -1074 ≤ f ∧ (c : Rat) * p2 f < p2 1023
theorem exact_nearest {b : Bool} {k : Nat} {i : Int} {v : Rat} (h : Exact v) (e : v = sg b * ((k : Rat) * p2 i)) : Finite (double.nearest b k i) ∧ val (double.nearest b k i) = v := by
  obtain ⟨b', c, f, e', hc, hf, hb⟩ := h
  obtain ⟨n1, n2⟩ := nearest_exact b' c f hb hf hc
  have hcong := nearest_congr (e.symm.trans e')
  refine ⟨?_, by rw [hcong, n2, ← e']⟩
  have hv : (k : Rat) * p2 i < p2 1023 := by
    have := (sg_pos_eq (mp_nonneg k i) (mp_nonneg c f) (e.symm.trans e')).1
    rw [this]; exact hb
  exact (nearest_rnd b k i hv).1
theorem add_exact {x y : Nat} (hx : Finite x) (hy : Finite y) (h : Exact (val x + val y)) : ∃ r, double.add x y = some r ∧ Finite r ∧ val r = val x + val y := by
  obtain ⟨b, k, i, e, _, ev⟩ := add_form hx hy
  exact ⟨_, e, exact_nearest h ev⟩
theorem mul_exact {x y : Nat} (hx : Finite x) (hy : Finite y) (h : Exact (val x * val y)) : ∃ r, double.mul x y = some r ∧ Finite r ∧ val r = val x * val y := by
  obtain ⟨b, k, i, e, ev⟩ := mul_form hx hy
  exact ⟨_, e, exact_nearest h ev⟩
theorem sub_form {x y : Nat} (hx : Finite x) (hy : Finite y) : ∃ b k i, double.sub x y = some (double.nearest b k i) ∧ -1074 ≤ i ∧ val x - val y = sg b * ((k : Rat) * p2 i) := by
  obtain ⟨s, m, i, hr, hm, hi, hi2⟩ := read_fin x hx
  obtain ⟨t, n, j, hr', hn, hj, hj2⟩ := read_fin y hy
  obtain ⟨b, k, hs, hv⟩ := sum_number s (!t) m n i j
  have e : sg (!t) = - sg t := by cases t <;> simp [sg]
  refine ⟨b, k, min i j, ?_, by omega, by rw [hv, e]; simp [val, hr, hr', dval]; grind⟩
  simp [Format.sub, hr, hr', Datum.opposite, hs, Format.write]
theorem sub_exact {x y : Nat} (hx : Finite x) (hy : Finite y) (h : Exact (val x - val y)) : ∃ r, double.sub x y = some r ∧ Finite r ∧ val r = val x - val y := by
  obtain ⟨b, k, i, e, _, ev⟩ := sub_form hx hy
  exact ⟨_, e, exact_nearest h ev⟩
theorem div_good {x y : Nat} (hx : Finite x) (hy : Finite y) (h0 : val y ≠ 0) : ∃ r, double.div x y = some r ∧ Good r := by
  obtain ⟨s, m, i, hr, hm, hi, hi2⟩ := read_fin x hx
  obtain ⟨t, n, j, hr', hn, hj, hj2⟩ := read_fin y hy
  refine ⟨_, div_number x y hr hr' (nz_of_val hr' h0), ?_⟩
  exact good_of _ (write_ok (.number _ _ _) (fun _ _ h => by cases h))
theorem add_fin_good {x y : Nat} (hx : Finite x) (hy : Finite y) : ∃ r, double.add x y = some r ∧ Good r := by
  obtain ⟨b, k, i, e, _, ev⟩ := add_form hx hy
  exact ⟨_, e, add_good e⟩
theorem sub_fin_good {x y : Nat} (hx : Finite x) (hy : Finite y) : ∃ r, double.sub x y = some r ∧ Good r := by
  obtain ⟨b, k, i, e, _, ev⟩ := sub_form hx hy
  exact ⟨_, e, sub_good e⟩
theorem mul_fin_good {x y : Nat} (hx : Finite x) (hy : Finite y) : ∃ r, double.mul x y = some r ∧ Good r := by
  obtain ⟨b, k, i, e, ev⟩ := mul_form hx hy
  exact ⟨_, e, mul_good e⟩
theorem nat_of_rat_eq {a b c : Nat} (h : (a : Rat) * (b : Rat) = (c : Rat)) : a * b = c := by
  have : ((a * b : Nat) : Rat) = (c : Rat) := by rw [Rat.natCast_mul]; exact h
  exact_mod_cast this
/-- a quotient that is a number of at most 53 digits is exact -/
theorem div_exact {x y : Nat} (hx : Finite x) (hy : Finite y) (h0 : val y ≠ 0) (v : Rat) (hv : v * val y = val x) (h : Exact v) : ∃ r, double.div x y = some r ∧ Finite r ∧ val r = v := by
  obtain ⟨s, m, i, hr, hm, hi, hi2⟩ := read_fin x hx
  obtain ⟨t, n, j, hr', hn, hj, hj2⟩ := read_fin y hy
  have hn0 := nz_of_val hr' h0
  have npos : (0 : Rat) < (n : Rat) := by exact_mod_cast Nat.pos_of_ne_zero hn0
  refine ⟨_, div_number x y hr hr' hn0, exact_nearest h ?_⟩
  have hvv : v * (sg t * ((n : Rat) * p2 j)) = sg s * ((m : Rat) * p2 i) := by simpa [val, hr, hr', dval] using hv
  have hsz := quo_size _ _ _ _ _ _ _ (sg_cases s) (sg_cases t) hvv
  have hav : v = sg s * sg t * (sg s * sg t * v) := by
    rcases sg_cases s with a | a <;> rcases sg_cases t with b | b <;> rw [a, b] <;> grind
  rw [sg_xor]
  by_cases hm0 : m = 0
  · subst hm0
    have e0 : (0 <<< (54 + n.log2 - Nat.log2 0)) = 0 := by simp
    rw [e0]
    simp only [Nat.zero_div, Nat.zero_mod, Nat.mul_zero, Nat.zero_add]
    have hz : ((0 : Nat) : Rat) = 0 := rfl
    have hz2 : (((((0 : Nat) != 0).toNat : Nat)) : Rat) = 0 := rfl
    rw [hz2, Rat.zero_mul, Rat.mul_zero]
    rw [hz, Rat.zero_mul] at hsz
    rcases Rat.mul_eq_zero.1 hsz with h | h
    · rw [hav, h, Rat.mul_zero]
    · exfalso
      rcases Rat.mul_eq_zero.1 h with h | h
      · grind
      · have := p2_pos j; grind
  · obtain ⟨more, K, eM, eK, hK, k1, k2, k3⟩ := quo_core m n i j hm0 hn0
    rw [← eM, ← eK]
    generalize he : i - j - (more : Int) - 1 = e
    have hie : p2 i = p2 e * p2 j * 2 * ((2 ^ more : Nat) : Rat) := by
      have : i = e + j + 1 + (more : Int) := by omega
      rw [this, p2_add, p2_add, p2_add, p2_one, p2_nat]
    obtain ⟨b, c, f, ev, hc, hf, hb⟩ := h
    have hd := quo_dist _ _ _ _ K _ (p2 e) _ npos (p2_pos j) (p2_pos e) hie hsz k1 k2
    -- the size of v
    have hav2 : sg s * sg t * v = (c : Rat) * p2 f := by
      have h1 : 0 ≤ sg s * sg t * v := by
        have hp := p2_pos e
        have hKp : ((2 ^ 54 : Nat) : Rat) ≤ (K : Rat) := by exact_mod_cast hK
        have h18 : ((2 ^ 54 : Nat) : Rat) = 18014398509481984 := by decide +kernel
        rw [h18] at hKp
        have := Rat.mul_le_mul_of_nonneg_right hKp (Rat.le_of_lt hp)
        grind
      have h2 := mp_nonneg c f
      rw [ev] at h1 ⊢
      rcases sg_cases s with a | a <;> rcases sg_cases t with a' | a' <;> rcases sg_cases b with a'' | a'' <;> rw [a, a', a''] at h1 ⊢ <;> grind
    rw [hav2] at hsz hd
    -- D * 2 ^ g = c * n * 2 ^ h with the exponents evened out
    have hfe : e + 1 ≤ f := by
      -- else c * 2 ^ f < 2 ^ 53 * 2 ^ (e + 1) <= K * 2 ^ e - 2 ^ e
      rcases Int.lt_or_le f (e + 1) with hlt | hge
      · exfalso
        have hp := p2_pos e
        have h1 : p2 f ≤ p2 e := p2_le (by omega)
        have hc' : (c : Rat) ≤ 9007199254740991 := by
          have : (c : Rat) ≤ ((2 ^ 53 - 1 : Nat) : Rat) := by exact_mod_cast (by omega : c ≤ 2 ^ 53 - 1)
          have h53 : ((2 ^ 53 - 1 : Nat) : Rat) = 9007199254740991 := by decide +kernel
          rw [h53] at this; exact this
        have a1 := Rat.mul_le_mul_of_nonneg_right hc' (Rat.le_of_lt (p2_pos f))
        have hKp : ((2 ^ 54 : Nat) : Rat) ≤ (K : Rat) := by exact_mod_cast hK
        have h18 : ((2 ^ 54 : Nat) : Rat) = 18014398509481984 := by decide +kernel
        rw [h18] at hKp
        have a2 := Rat.mul_le_mul_of_nonneg_right hKp (Rat.le_of_lt hp)
        have := hd.1
        grind
      · exact hge
    obtain ⟨g, hg⟩ : ∃ g : Nat, f = e + 1 + (g : Int) := ⟨(f - e - 1).toNat, by omega⟩
    have hdiv : c * 2 ^ g * n = m * 2 ^ more := by
      have e1 : (c : Rat) * p2 f * ((n : Rat) * p2 j) = (m : Rat) * p2 i := hsz
      rw [hie, hg, p2_add, p2_add, p2_one, p2_nat] at e1
      have hpj := p2_pos j
      have hpe := p2_pos e
      have hpp : 0 < p2 e * p2 j * 2 := Rat.mul_pos (Rat.mul_pos hpe hpj) (by decide)
      have e2 : ((c : Rat) * ((2 ^ g : Nat) : Rat) * (n : Rat)) * (p2 e * p2 j * 2) = ((m : Rat) * ((2 ^ more : Nat) : Rat)) * (p2 e * p2 j * 2) := by grind
      have e3 : (c : Rat) * ((2 ^ g : Nat) : Rat) * (n : Rat) = (m : Rat) * ((2 ^ more : Nat) : Rat) := by
        have l1 := mul_le_cancel hpp (le_of_eq' e2)
        have l2 := mul_le_cancel hpp (le_of_eq' e2.symm)
        exact Rat.le_antisymm l1 l2
      have e4 : ((c * 2 ^ g * n : Nat) : Rat) = ((m * 2 ^ more : Nat) : Rat) := by
        rw [Rat.natCast_mul, Rat.natCast_mul, Rat.natCast_mul]; exact e3
      exact_mod_cast e4
    have hK2 := k3 (by rw [← hdiv]; exact Nat.mul_mod_left _ _)
    -- so K 2 ^ e is v's size
    have hfin : (K : Rat) * p2 e = (c : Rat) * p2 f := by
      have hpj := p2_pos j
      have hnj : 0 < (n : Rat) * p2 j := Rat.mul_pos npos hpj
      have e1 : (K : Rat) * p2 e * ((n : Rat) * p2 j) = (c : Rat) * p2 f * ((n : Rat) * p2 j) := by rw [hsz, hie]; grind
      exact Rat.le_antisymm (mul_le_cancel hnj (le_of_eq' e1)) (mul_le_cancel hnj (le_of_eq' e1.symm))
    rw [hfin, ← hav2]; exact hav
theorem exact_int (z : Int) (h : z.natAbs < 2 ^ 53) : Exact (z : Rat) := by
  refine ⟨decide (z < 0), z.natAbs, 0, ?_, h, by decide, ?_⟩
  · rw [p2_zero, Rat.mul_one]
    by_cases hz : z < 0
    · simp only [hz, decide_true, sg, if_true]
      have : (z.natAbs : Int) = -z := by omega
      have h2 : ((z.natAbs : Int) : Rat) = ((-z : Int) : Rat) := by rw [this]
      rw [Rat.intCast_neg] at h2
      have h3 : ((z.natAbs : Nat) : Rat) = ((z.natAbs : Int) : Rat) := rfl
      rw [h3, h2]; grind
    · simp only [hz, decide_false, sg, Bool.false_eq_true, if_false]
      have : (z.natAbs : Int) = z := by omega
      have h3 : ((z.natAbs : Nat) : Rat) = ((z.natAbs : Int) : Rat) := rfl
      rw [h3, this]; grind
  · rw [p2_zero, Rat.mul_one]
    have h1 : (z.natAbs : Rat) < ((2 ^ 53 : Nat) : Rat) := by exact_mod_cast h
    rw [← p2_nat] at h1
    have := p2_le (show ((53 : Nat) : Int) ≤ 1023 by omega)
    grind
end FL
