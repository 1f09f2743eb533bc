/-
  Plain facts on IEEE double words, continued: quotients, near and exact; sums and products that are exact.
-/
import Derived.Test.YtafeeebgleecfaaFLD
namespace FL
open Ieee
set_option linter.unusedVariables false

/-- what a quotient leaves: its digits and what they are worth -/
theorem quo_core (m n : Nat) (i j : Int) (hm : m ≠ 0) (hn : n ≠ 0) :
    ∃ (more K : Nat), more = 54 + n.log2 - m.log2 ∧ K = 2 * ((m <<< more) / n) + ((m <<< more) % n != 0).toNat ∧ 2 ^ 54 ≤ K ∧
      (K : Rat) * (n : Rat) ≤ 2 * ((m : Rat) * ((2 ^ more : Nat) : Rat)) + (n : Rat) ∧ 2 * ((m : Rat) * ((2 ^ more : Nat) : Rat)) ≤ (K : Rat) * (n : Rat) + (n : Rat) ∧
      ((m * 2 ^ more) % n = 0 → (K : Rat) * (n : Rat) = 2 * ((m : Rat) * ((2 ^ more : Nat) : Rat))) := by
  refine ⟨54 + n.log2 - m.log2, _, rfl, rfl, ?_⟩
  generalize hmo : 54 + n.log2 - m.log2 = more
  rw [Nat.shiftLeft_eq]
  have h1 : 2 ^ m.log2 ≤ m := Nat.log2_self_le hm
  have h2 : n < 2 ^ (n.log2 + 1) := Nat.lt_log2_self
  have h3 : 2 ^ (54 + n.log2) ≤ m * 2 ^ more := by
    have a : 2 ^ (54 + n.log2) ≤ 2 ^ (m.log2 + more) := Nat.pow_le_pow_right (by decide) (by omega)
    have b : 2 ^ (m.log2 + more) ≤ m * 2 ^ more := by rw [Nat.pow_add]; exact Nat.mul_le_mul_right _ h1
    omega
  have h4 : 2 ^ 53 ≤ (m * 2 ^ more) / n := by
    rw [Nat.le_div_iff_mul_le (by omega)]
    have a : 2 ^ (54 + n.log2) = 2 ^ 53 * 2 ^ (n.log2 + 1) := by rw [← Nat.pow_add]; congr 1; omega
    have b : 2 ^ 53 * n ≤ 2 ^ 53 * 2 ^ (n.log2 + 1) := Nat.mul_le_mul_left _ (by omega)
    omega
  generalize hD : m * 2 ^ more = D at *
  have hdm := Nat.div_add_mod D n
  have hml := Nat.mod_lt D (show 0 < n by omega)
  have eD : (m : Rat) * ((2 ^ more : Nat) : Rat) = (D : Rat) := by rw [← hD, Rat.natCast_mul]
  rw [eD]
  have hq : (n : Rat) * ((D / n : Nat) : Rat) + ((D % n : Nat) : Rat) = (D : Rat) := by
    rw [← Rat.natCast_mul, ← Rat.natCast_add, hdm]
  have hl : ((D % n : Nat) : Rat) ≤ (n : Rat) := by exact_mod_cast (by omega : D % n ≤ n)
  have h0 : (0 : Rat) ≤ ((D % n : Nat) : Rat) := Rat.natCast_nonneg
  clear hdm hml hD eD h1 h2 h3 hmo
  generalize D / n = Q at *
  by_cases hz : D % n = 0
  · have e : (D % n != 0).toNat = 0 := by simp [hz]
    rw [e]
    have hz' : ((D % n : Nat) : Rat) = 0 := by rw [hz]; rfl
    have ek : ((2 * Q + 0 : Nat) : Rat) = 2 * (Q : Rat) := by rw [Nat.add_zero, Rat.natCast_mul]; rfl
    rw [ek]
    have hnn : (0 : Rat) ≤ (n : Rat) := Rat.natCast_nonneg
    refine ⟨by omega, by grind, by grind, fun _ => by grind⟩
  · have e : (D % n != 0).toNat = 1 := by simp [hz]
    rw [e]
    have ek : ((2 * Q + 1 : Nat) : Rat) = 2 * (Q : Rat) + 1 := by rw [Rat.natCast_add, Rat.natCast_mul]; rfl
    rw [ek]
    refine ⟨by omega, by grind, by grind, fun h => absurd h hz⟩

theorem div_number (x y : Nat) {s t : Bool} {m n : Nat} {i j : Int} (hx : double.read x = .number s m i) (hy : double.read y = .number t n j) (hn : n ≠ 0) :
    double.div x y = some (double.nearest (s ^^ t) (2 * ((m <<< (54 + n.log2 - m.log2)) / n) + ((m <<< (54 + n.log2 - m.log2)) % n != 0).toNat) (i - j - ((54 + n.log2 - m.log2 : Nat) : Int) - 1)) := by
  unfold Format.div
  rw [hx, hy]
  simp only [Datum.quotient, if_neg hn, Option.map_some, Format.write]
  rfl

/-- 'r' is finite and near 'v': twice the bound of a rounding. -/
def RndD (r : Nat) (v : Rat) : Prop := Finite r ∧ ∀ M, -M ≤ v → v ≤ M → -(2 * u * M + eta) ≤ val r - v ∧ val r - v ≤ 2 * u * M + eta

theorem quo_alg (a b k p q v M r e : Rat) (ha : a = 1 ∨ a = -1) (hb : b = 1 ∨ b = -1)
    (hk : -(u * (M + p) + e) ≤ r - a * b * k) (hk2 : r - a * b * k ≤ u * (M + p) + e) (h1 : k ≤ v + p) (h2 : v ≤ k + p) (h3 : 18014398509481984 * p ≤ k) (hp : 0 ≤ p) (hv : v ≤ M) :
    -(2 * u * M + e) ≤ r - a * b * v ∧ r - a * b * v ≤ 2 * u * M + e := by
  unfold u at *
  rcases ha with rfl | rfl <;> rcases hb with rfl | rfl <;> constructor <;> grind

theorem nz_of_val {y : Nat} {t : Bool} {n : Nat} {j : Int} (hy : double.read y = .number t n j) (h0 : val y ≠ 0) : n ≠ 0 := by
  intro h
  apply h0
  subst h
  have : ((0 : Nat) : Rat) = 0 := rfl
  simp only [val, hy, dval, this]; grind

/-- the quotient's size: v is worth m 2^i over n 2^j -/
theorem quo_size (a b m i n j v : Rat) (ha : a = 1 ∨ a = -1) (hb : b = 1 ∨ b = -1) (hv : v * (b * (n * j)) = a * (m * i)) : (a * b * v) * (n * j) = m * i := by
  rcases ha with rfl | rfl <;> rcases hb with rfl | rfl <;> grind

theorem mul_le_cancel {a b c : Rat} (hc : 0 < c) (h : a * c ≤ b * c) : a ≤ b := by
  rcases Rat.le_total (a := a) (b := b) with h1 | h1
  · exact h1
  · by_cases e : a = b
    · subst e; exact h1
    · have := Rat.mul_lt_mul_of_pos_right (show b < a by grind) hc
      grind

theorem quo_dist (m n j i : Rat) (K : Rat) (mo e v : Rat) (hn : 0 < n) (hj : 0 < j) (he : 0 < e) (hi : i = e * j * 2 * mo) (hv : v * (n * j) = m * i) (h1 : K * n ≤ 2 * (m * mo) + n) (h2 : 2 * (m * mo) ≤ K * n + n) :
    K * e ≤ v + e ∧ v ≤ K * e + e := by
  have hej : 0 < e * j := Rat.mul_pos he hj
  have hnj : 0 < n * j := Rat.mul_pos hn hj
  have a1 := Rat.mul_le_mul_of_nonneg_right h1 (Rat.le_of_lt hej)
  have a2 := Rat.mul_le_mul_of_nonneg_right h2 (Rat.le_of_lt hej)
  subst hi
  constructor
  · exact mul_le_cancel hnj (by grind)
  · exact mul_le_cancel hnj (by grind)

theorem div_ok (x y : Nat) (hx : Finite x) (hy : Finite y) (h0 : val y ≠ 0) (v : Rat) (hv : v * val y = val x) (h1 : -p2 1022 < v) (h2 : v < p2 1022) :
    ∃ r, double.div x y = some r ∧ RndD r v := by
  obtain ⟨s, m, i, hr, hm, hi, hi2⟩ := read_fin x hx
  obtain ⟨t, n, j, hr', hn, hj, hj2⟩ := read_fin y hy
  have hn0 := nz_of_val hr' h0
  have npos : (0 : Rat) < (n : Rat) := by exact_mod_cast Nat.pos_of_ne_zero hn0
  refine ⟨_, div_number x y hr hr' hn0, ?_⟩
  have hvv : v * (sg t * ((n : Rat) * p2 j)) = sg s * ((m : Rat) * p2 i) := by simpa [val, hr, hr', dval] using hv
  have hsz := quo_size _ _ _ _ _ _ _ (sg_cases s) (sg_cases t) hvv
  by_cases hm0 : m = 0
  · subst hm0
    have e0 : (0 <<< (54 + n.log2 - Nat.log2 0)) = 0 := by simp
    rw [e0]
    simp only [Nat.zero_div, Nat.zero_mod, Nat.mul_zero, Nat.zero_add]
    have v0 : v = 0 := by
      have hz : ((0 : Nat) : Rat) = 0 := rfl
      rw [hz, Rat.zero_mul, Rat.mul_zero] at hvv
      rcases Rat.mul_eq_zero.1 hvv with h | h
      · exact h
      · exfalso
        rcases Rat.mul_eq_zero.1 h with h | h
        · rcases sg_cases t with h' | h' <;> rw [h'] at h <;> revert h <;> decide +kernel
        · rcases Rat.mul_eq_zero.1 h with h | h
          · grind
          · have := p2_pos j; grind
    subst v0
    have e : double.nearest (s ^^ t) (((0 : Nat) != 0).toNat) (i - j - ((54 + n.log2 - Nat.log2 0 : Nat) : Int) - 1) = double.word (s ^^ t) 0 := by simp [Format.nearest]
    rw [e]
    obtain ⟨w1, w2⟩ := word_zero (s ^^ t)
    refine ⟨w1, fun M m1 m2 => ?_⟩
    rw [w2]
    have := eta_pos
    unfold u
    constructor <;> grind
  · obtain ⟨more, K, eM, eK, hK, k1, k2, -⟩ := quo_core m n i j hm0 hn0
    rw [← eM, ← eK]
    generalize he : i - j - (more : Int) - 1 = e
    have hie : p2 i = p2 e * p2 j * 2 * ((2 ^ more : Nat) : Rat) := by
      have : i = e + j + 1 + (more : Int) := by omega
      rw [this, p2_add, p2_add, p2_add, p2_one, p2_nat]
    have hd := quo_dist _ _ _ _ K _ (p2 e) _ npos (p2_pos j) (p2_pos e) hie hsz k1 k2
    have hp := p2_pos e
    have hKe : 18014398509481984 * p2 e ≤ (K : Rat) * p2 e := by
      have : ((2 ^ 54 : Nat) : Rat) ≤ (K : Rat) := by exact_mod_cast hK
      have h18 : ((2 ^ 54 : Nat) : Rat) = 18014398509481984 := by decide +kernel
      rw [h18] at this
      exact Rat.mul_le_mul_of_nonneg_right this (Rat.le_of_lt hp)
    have hab : sg s * sg t * v < p2 1022 := by
      rcases sg_cases s with a | a <;> rcases sg_cases t with b | b <;> rw [a, b] <;> grind
    have hav : v = sg s * sg t * (sg s * sg t * v) := by
      rcases sg_cases s with a | a <;> rcases sg_cases t with b | b <;> rw [a, b] <;> grind
    have hbig : (K : Rat) * p2 e < p2 1023 := by
      have e1 : p2 1023 = 2 * p2 1022 := half_p2 1023
      rw [e1]
      generalize p2 1022 = B at *
      generalize p2 e = E at *
      grind
    obtain ⟨r1, r2⟩ := nearest_rnd (s ^^ t) K e hbig
    refine ⟨r1, fun M m1 m2 => ?_⟩
    have hM : sg s * sg t * v ≤ M := by
      rcases sg_cases s with a | a <;> rcases sg_cases t with b | b <;> rw [a, b] <;> grind
    rw [sg_xor] at r2
    have hr2 := r2 (M + p2 e) (by rcases sg_cases s with a | a <;> rcases sg_cases t with b | b <;> rw [a, b] <;> grind) (by rcases sg_cases s with a | a <;> rcases sg_cases t with b | b <;> rw [a, b] <;> grind)
    have hq := quo_alg (sg s) (sg t) (K * p2 e) (p2 e) 0 (sg s * sg t * v) M (val (double.nearest (s ^^ t) K e)) eta (sg_cases s) (sg_cases t) hr2.1 hr2.2 hd.1 hd.2 hKe (Rat.le_of_lt hp) hM
    rw [← hav] at hq
    exact hq
end FL
