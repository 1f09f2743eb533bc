/-
  Plain facts on IEEE double words, continued: the floor, the lesser and the greater of two.
-/
import GoSem.Core.Float
import GoSem.Extern.MathFloor
import GoSem.Extern.MathDim
import Derived.Test.YtafeeebgleecfaaFLF
namespace FL
open Ieee
set_option linter.unusedVariables false
theorem cut_down (neg : Bool) (n drop : Nat) : Toward.down.cut neg n drop = n / 2 ^ drop + (neg && n % 2 ^ drop != 0).toNat := by
  unfold Toward.cut
  simp only [Nat.one_shiftLeft]
  by_cases h : drop ≤ n.log2 + 2
  · rw [Nat.min_eq_left h]
  · rw [Nat.min_eq_right (by omega)]
    have hn : n < 2 ^ (n.log2 + 1) := Nat.lt_log2_self
    have h1 : 2 ^ (n.log2 + 1) ≤ 2 ^ (n.log2 + 2) := Nat.pow_le_pow_right (by decide) (by omega)
    have h2 : 2 ^ (n.log2 + 1) ≤ 2 ^ drop := Nat.pow_le_pow_right (by decide) (by omega)
    rw [Nat.div_eq_of_lt (by omega), Nat.div_eq_of_lt (by omega), Nat.mod_eq_of_lt (by omega), Nat.mod_eq_of_lt (by omega)]
def floorW (x : Nat) : Nat := double.write ((double.read x).integral .down)
theorem exact_nat (b : Bool) (k : Nat) (h : k < 2 ^ 53) : Finite (double.nearest b k 0) ∧ val (double.nearest b k 0) = sg b * (k : Rat) := by
  have hb : (k : Rat) * p2 0 < p2 1023 := by
    rw [p2_zero, Rat.mul_one]
    have h1 : (k : Rat) < ((2 ^ 53 : Nat) : Rat) := by exact_mod_cast h
    rw [← p2_nat] at h1
    have := p2_le (show ((53 : Nat) : Int) ≤ 1023 by omega)
    grind
  obtain ⟨n1, n2⟩ := nearest_exact b k 0 hb (by decide) h
  refine ⟨n1, ?_⟩
  rw [n2, p2_zero, Rat.mul_one]
/-- the floor of a number that is not too great -/
theorem floor_ok (x : Nat) (h : Finite x) (hb1 : -p2 1022 < val x) (hb2 : val x < p2 1022) : Finite (floorW x) ∧ ∃ n : Int, val (floorW x) = n ∧ (n : Rat) ≤ val x ∧ val x < (n : Rat) + 1 := by
  obtain ⟨s, m, i, hr, hm, hi, hi2⟩ := read_fin x h
  have hv : val x = sg s * ((m : Rat) * p2 i) := by simp [val, hr, dval]
  have hvb : (m : Rat) * p2 i < p2 1022 := by
    rw [hv] at hb1 hb2
    exact abs_sg s _ _ hb1 hb2
  unfold floorW
  rw [hr]
  simp only [Datum.integral, Format.write]
  rw [cut_down]
  by_cases h0 : 0 ≤ i
  · have e1 : (-i).toNat = 0 := by omega
    rw [e1, Nat.pow_zero, Nat.div_one, Nat.mod_one]
    have e2 : (s && (0 : Nat) != 0).toNat = 0 := by cases s <;> rfl
    rw [e2, Nat.add_zero, Nat.shiftLeft_eq]
    have e3 : ((m * 2 ^ i.toNat : Nat) : Rat) * p2 0 = (m : Rat) * p2 i := by
      have ei : (0 : Int) + (i.toNat : Int) = i := by clear hb1 hb2 hv hvb; omega
      rw [nat_p2, ei]
    have hex : Exact (val x) := by
      refine ⟨s, m, i, hv, hm, hi, ?_⟩
      have := p2_le (show (1022 : Int) ≤ 1023 by omega)
      grind
    obtain ⟨f1, f2⟩ := exact_nearest (b := s) (k := m * 2 ^ i.toNat) (i := 0) hex (by rw [e3, hv])
    refine ⟨f1, if s then -((m * 2 ^ i.toNat : Nat) : Int) else ((m * 2 ^ i.toNat : Nat) : Int), ?_⟩
    have e4 : (((if s then -((m * 2 ^ i.toNat : Nat) : Int) else ((m * 2 ^ i.toNat : Nat) : Int)) : Int) : Rat) = val x := by
      rw [hv, ← e3, p2_zero, Rat.mul_one]
      cases s
      · simp only [Bool.false_eq_true, if_false, sg, Rat.one_mul]; rfl
      · simp only [if_true, sg, Rat.intCast_neg]
        have : (((m * 2 ^ i.toNat : Nat) : Int) : Rat) = ((m * 2 ^ i.toNat : Nat) : Rat) := rfl
        rw [this]; grind
    rw [e4]
    exact ⟨f2, Rat.le_refl, by grind⟩
  · obtain ⟨d, hd⟩ : ∃ d : Nat, i = -(d : Int) ∧ 1 ≤ d := ⟨(-i).toNat, by omega, by omega⟩
    have e1 : (-i).toNat = d := by omega
    have e0 : i.toNat = 0 := by omega
    rw [e1, e0, Nat.shiftLeft_zero]
    obtain ⟨hd, hd1⟩ := hd
    subst hd
    have hp : 0 < 2 ^ d := Nat.two_pow_pos _
    have h2 : 2 ≤ 2 ^ d := Nat.pow_le_pow_right (n := 2) (by decide) hd1
    have hdm := Nat.div_add_mod m (2 ^ d)
    have hml := Nat.mod_lt m hp
    have hq : m / 2 ^ d < 2 ^ 52 := by
      rw [Nat.div_lt_iff_lt_mul hp]
      have : 2 ^ 52 * 2 ≤ 2 ^ 52 * 2 ^ d := Nat.mul_le_mul_left _ h2
      omega
    obtain ⟨c, hc⟩ : ∃ c, c = (s && m % 2 ^ d != 0).toNat := ⟨_, rfl⟩
    rw [← hc]
    have hc1 : c ≤ 1 := by rw [hc]; exact Bool.toNat_le _
    obtain ⟨f1, f2⟩ := exact_nat s (m / 2 ^ d + c) (by omega)
    have hpd := p2_pos (-(d : Int))
    have hdr : ((2 ^ d : Nat) : Rat) * p2 (-(d : Int)) = 1 := by
      rw [← p2_nat, ← p2_add, Int.add_right_neg, p2_zero]
    have hmr : (m : Rat) * p2 (-(d : Int)) = ((m / 2 ^ d : Nat) : Rat) + ((m % 2 ^ d : Nat) : Rat) * p2 (-(d : Int)) := by
      have : (m : Rat) = ((2 ^ d : Nat) : Rat) * ((m / 2 ^ d : Nat) : Rat) + ((m % 2 ^ d : Nat) : Rat) := by
        rw [← Rat.natCast_mul, ← Rat.natCast_add, hdm]
      grind
    have hrest0 : 0 ≤ ((m % 2 ^ d : Nat) : Rat) * p2 (-(d : Int)) := mp_nonneg _ _
    have hrest1 : ((m % 2 ^ d : Nat) : Rat) * p2 (-(d : Int)) < 1 := by
      have : ((m % 2 ^ d : Nat) : Rat) < ((2 ^ d : Nat) : Rat) := by exact_mod_cast hml
      have := Rat.mul_lt_mul_of_pos_right this hpd
      grind
    cases s with
    | false =>
      have hc0 : c = 0 := by rw [hc]; rfl
      subst hc0
      rw [Nat.add_zero] at f1 f2 ⊢
      refine ⟨f1, ((m / 2 ^ d : Nat) : Int), ?_⟩
      have hcast : ((((m / 2 ^ d : Nat) : Int)) : Rat) = ((m / 2 ^ d : Nat) : Rat) := rfl
      rw [hcast, hv, hmr, f2]
      simp only [sg, Bool.false_eq_true, if_false]
      refine ⟨by grind, by grind, by grind⟩
    | true =>
      refine ⟨f1, -((m / 2 ^ d + c : Nat) : Int), ?_⟩
      have hcast : ((-((m / 2 ^ d + c : Nat) : Int) : Int) : Rat) = -((m / 2 ^ d + c : Nat) : Rat) := by rw [Rat.intCast_neg]; rfl
      rw [hcast, hv, hmr, f2, Rat.natCast_add]
      simp only [sg, if_true]
      by_cases hz : m % 2 ^ d = 0
      · have hc0 : c = 0 := by rw [hc, hz]; rfl
        subst hc0
        have z1 : ((0 : Nat) : Rat) = 0 := rfl
        rw [hz, z1]
        refine ⟨by grind, by grind, by grind⟩
      · have hc0 : c = 1 := by rw [hc]; simp [hz]
        subst hc0
        have z1 : ((1 : Nat) : Rat) = 1 := rfl
        rw [z1]
        have hr1 : 0 < ((m % 2 ^ d : Nat) : Rat) * p2 (-(d : Int)) := by
          refine Rat.mul_pos ?_ hpd
          exact_mod_cast Nat.pos_of_ne_zero hz
        refine ⟨by grind, by grind, by grind⟩

/-- the greater, the lesser of two, as math.Max and math.Min pick it -/
def pickW (neg : Bool) (win : Ordering) (x y : Nat) : Nat :=
  let a := double.read x
  let b := double.read y
  if a == .infinity neg || b == .infinity neg then double.write (.infinity neg)
  else if a.isNaN || b.isNaN then 0x7FF8000000000001
  else if a.isZero && b.isZero then (if a.neg == neg then x else y)
  else if a.order b == some win then x else y
def maxW : Nat → Nat → Nat := pickW false .gt
def minW : Nat → Nat → Nat := pickW true .lt
theorem zero_val {x : Nat} (h : Finite x) (hz : (double.read x).isZero = true) : val x = 0 := by
  obtain ⟨s, m, i, hr, hm, hi, hi2⟩ := read_fin x h
  rw [hr] at hz
  have : m = 0 := by
    cases m with
    | zero => rfl
    | succ n => exact absurd hz (by simp [Datum.isZero])
  subst this
  have z : ((0 : Nat) : Rat) = 0 := rfl
  simp only [val, hr, dval, z]; grind
theorem pick_cases {neg : Bool} {win : Ordering} {x y : Nat} (hx : Finite x) (hy : Finite y) :
    (val x = 0 ∧ val y = 0 ∧ (pickW neg win x y = x ∨ pickW neg win x y = y)) ∨ pickW neg win x y = if double.order x y == some win then x else y := by
  have n1 : ∀ b, ((double.read x) == Datum.infinity b) = false := by
    intro b; obtain ⟨s, m, i, hr, -⟩ := read_fin x hx; rw [hr]; rfl
  have n2 : ∀ b, ((double.read y) == Datum.infinity b) = false := by
    intro b; obtain ⟨s, m, i, hr, -⟩ := read_fin y hy; rw [hr]; rfl
  have n3 : (double.read x).isNaN = false := by obtain ⟨s, m, i, hr, -⟩ := read_fin x hx; rw [hr]; rfl
  have n4 : (double.read y).isNaN = false := by obtain ⟨s, m, i, hr, -⟩ := read_fin y hy; rw [hr]; rfl
  unfold pickW
  simp only [n1, n2, n3, n4, Bool.or_self, Bool.false_eq_true, if_false]
  by_cases hz : ((double.read x).isZero && (double.read y).isZero) = true
  · left
    rw [if_pos hz]
    simp only [Bool.and_eq_true] at hz
    refine ⟨zero_val hx hz.1, zero_val hy hz.2, ?_⟩
    split
    · exact .inl rfl
    · exact .inr rfl
  · right
    rw [if_neg hz]
    rfl
theorem max_ok {x y : Nat} (hx : Finite x) (hy : Finite y) : Finite (maxW x y) ∧ val x ≤ val (maxW x y) ∧ val y ≤ val (maxW x y) ∧ (maxW x y = x ∨ maxW x y = y) := by
  unfold maxW
  rcases pick_cases (neg := false) (win := .gt) hx hy with ⟨h1, h2, h3⟩ | h
  · rcases h3 with h3 | h3 <;> rw [h3]
    · exact ⟨hx, Rat.le_refl, by grind, .inl rfl⟩
    · exact ⟨hy, by grind, Rat.le_refl, .inr rfl⟩
  · rw [h, gt_ok x y hx hy]
    by_cases hlt : val y < val x
    · simp only [hlt, decide_true, if_true]
      exact ⟨hx, Rat.le_refl, Rat.le_of_lt hlt, by simp⟩
    · simp only [hlt, decide_false, Bool.false_eq_true, if_false]
      exact ⟨hy, by grind, Rat.le_refl, by simp⟩
theorem min_ok {x y : Nat} (hx : Finite x) (hy : Finite y) : Finite (minW x y) ∧ val (minW x y) ≤ val x ∧ val (minW x y) ≤ val y ∧ (minW x y = x ∨ minW x y = y) := by
  unfold minW
  rcases pick_cases (neg := true) (win := .lt) hx hy with ⟨h1, h2, h3⟩ | h
  · rcases h3 with h3 | h3 <;> rw [h3]
    · exact ⟨hx, Rat.le_refl, by grind, .inl rfl⟩
    · exact ⟨hy, by grind, Rat.le_refl, .inr rfl⟩
  · rw [h, lt_ok x y hx hy]
    by_cases hlt : val x < val y
    · simp only [hlt, decide_true, if_true]
      exact ⟨hx, Rat.le_refl, Rat.le_of_lt hlt, by simp⟩
    · simp only [hlt, decide_false, Bool.false_eq_true, if_false]
      exact ⟨hy, by grind, Rat.le_refl, by simp⟩
end FL
