/-
  Plain facts on IEEE double words, continued: the integer that a conversion gives; hues as fractions of a turn; a step from one end to another; distances round the circle.
-/
import Derived.Laws.Cover2
import Derived.Test.YtafeeebgleecfaaFLJ
import Derived.Test.YtafeeebgleecfaaFLK
namespace FL
open Ieee Go
set_option linter.unusedVariables false
/-- a word cut towards zero, read as an integer -/
theorem toInt_trunc (x : Nat) (h : Finite x) (h1 : -4611686018427387904 < val x) (h2 : val x < 4611686018427387904) :
    ∃ n : Int, floatToIntVal .f64 x .i64 = some n ∧ n.natAbs < 2 ^ 62 + 1 ∧ ((0 ≤ val x ∧ (n : Rat) ≤ val x ∧ val x < (n : Rat) + 1) ∨ (val x ≤ 0 ∧ (n : Rat) - 1 < val x ∧ val x ≤ (n : Rat))) := by
  obtain ⟨s, m, i, hr, hm, hi, hi2⟩ := read_fin x h
  have hd : FloatKind.f64.decode x = .number s m i := hr
  have hvv : val x = sg s * ((m : Rat) * p2 i) := by simp [val, hr, dval]
  obtain ⟨c, hc⟩ : ∃ c, c = m <<< i.toNat / 2 ^ (-i).toNat := ⟨_, rfl⟩
  have hcm : (c : Rat) ≤ (m : Rat) * p2 i ∧ (m : Rat) * p2 i < (c : Rat) + 1 := by
    rcases (by omega : 0 ≤ i ∨ i < 0) with hi0 | hi0
    · have e1 : (-i).toNat = 0 := by omega
      rw [e1, Nat.pow_zero, Nat.div_one, Nat.shiftLeft_eq] at hc
      have e2 : (c : Rat) = (m : Rat) * p2 i := by
        rw [hc, Rat.natCast_mul, ← p2_nat]
        congr 2
        omega
      rw [e2]; exact ⟨Rat.le_refl, by grind⟩
    · have e1 : i.toNat = 0 := by omega
      obtain ⟨d, hd'⟩ : ∃ d : Nat, i = -(d : Int) := ⟨(-i).toNat, by omega⟩
      subst hd'
      have e2 : (-(-(d : Int))).toNat = d := by omega
      rw [e1, e2, Nat.shiftLeft_eq, Nat.pow_zero, Nat.mul_one] at hc
      have hp := Nat.two_pow_pos d
      have n1 : c * 2 ^ d ≤ m := by rw [hc]; exact Nat.div_mul_le_self m (2 ^ d)
      have n2 : m < (c + 1) * 2 ^ d := by
        have := Nat.div_add_mod m (2 ^ d)
        have := Nat.mod_lt m hp
        rw [Nat.add_mul, Nat.one_mul, hc, Nat.mul_comm]; omega
      have q1 : ((c * 2 ^ d : Nat) : Rat) ≤ (m : Rat) := by exact_mod_cast n1
      have q2 : (m : Rat) < (((c + 1) * 2 ^ d : Nat) : Rat) := by exact_mod_cast n2
      have r1 := Rat.mul_le_mul_of_nonneg_right q1 (Rat.le_of_lt (p2_pos (-(d : Int))))
      have r2 := Rat.mul_lt_mul_of_pos_right q2 (p2_pos (-(d : Int)))
      rw [Rat.natCast_mul] at r1 r2
      have u1 := p2_neg_nat d (c : Rat)
      have u2 := p2_neg_nat d ((c + 1 : Nat) : Rat)
      have u3 : ((c + 1 : Nat) : Rat) = (c : Rat) + 1 := by rw [Rat.natCast_add]; rfl
      exact ⟨by grind, by grind⟩
  have hc0 : (c : Rat) < 4611686018427387904 := by
    rcases sg_cases s with e | e <;> rw [e] at hvv <;> grind
  have hc1 : c < 4611686018427387904 := by
    have : ((c : Nat) : Rat) < ((4611686018427387904 : Nat) : Rat) := by rw [show ((4611686018427387904 : Nat) : Rat) = 4611686018427387904 by decide +kernel]; exact hc0
    exact_mod_cast this
  have hs : signed s c 0 = if s then -(c : Int) else (c : Int) := by cases s <;> simp [signed]
  have key : (Datum.number s m i).toInt .zero = some (if s then -(c : Int) else (c : Int)) := by
    simp only [Datum.toInt, Datum.integral, cut_to_zero]
    rw [← hc, hs]
  have h0 : 0 ≤ (m : Rat) * p2 i := mp_nonneg _ _
  refine ⟨if s then -(c : Int) else (c : Int), ?_, ?_, ?_⟩
  · unfold floatToIntVal
    rw [hd, key]
    have a1 : IntKind.min .i64 = -9223372036854775808 := rfl
    have a2 : IntKind.max .i64 = 9223372036854775807 := rfl
    simp only [a1, a2]
    rw [if_pos]
    cases s <;> simp <;> omega
  · cases s <;> simp <;> omega
  · cases s
    · left
      have e : sg false = 1 := rfl
      rw [hvv, e]
      simp only [Bool.false_eq_true, if_false]
      have e2 : ((c : Int) : Rat) = (c : Rat) := rfl
      rw [e2]
      exact ⟨by grind, by grind, by grind⟩
    · right
      have e : sg true = -1 := rfl
      rw [hvv, e]
      simp only [if_true]
      have e2 : ((-(c : Int) : Int) : Rat) = -(c : Rat) := by rw [Rat.intCast_neg]; rfl
      rw [e2]
      exact ⟨by grind, by grind, by grind⟩
theorem c360 : Finite 4645040803167600640 ∧ val 4645040803167600640 = 360 := by constructor <;> decide +kernel
theorem cHalf : Finite 4602678819172646912 ∧ val 4602678819172646912 = 1 / 2 := by constructor <;> decide +kernel
theorem cMHalf : Finite 13826050856027422720 ∧ val 13826050856027422720 = -(1 / 2) := by constructor <;> decide +kernel
theorem ofInt_ok' (n : Int) (h : n.natAbs < 2 ^ 53) : Finite (floatOfInt .f64 n) ∧ val (floatOfInt .f64 n) = n := by
  have e : floatOfInt .f64 n = double.nearest (decide (n < 0)) n.natAbs 0 := rfl
  obtain ⟨h1, h2⟩ := exact_nat (decide (n < 0)) n.natAbs h
  rw [e]
  refine ⟨h1, ?_⟩
  rw [h2]
  have := natAbs_val n false
  by_cases h0 : n = 0
  · subst h0; decide +kernel
  · rw [if_neg h0] at this; exact this
theorem big1022 : (1000000000000 : Rat) < p2 1022 ∧ (1000000000000 : Rat) < p2 1023 := by
  have h1 : p2 40 ≤ p2 1022 := p2_le (by decide)
  have h2 : p2 40 = 1099511627776 := by decide +kernel
  have := p2_1023
  rw [h2] at h1
  exact ⟨by grind, by grind⟩
theorem eta_tiny : eta ≤ 1 / 1000000000000000 := by
  have h : p2 (-1075) ≤ p2 (-50) := p2_le (by decide)
  have e : p2 (-50) = 1 / 1125899906842624 := by decide +kernel
  unfold eta
  rw [e] at h
  grind
/-- a hue as a fraction of a turn: what the code reckons, and that it is the hue but for whole turns -/
theorem frac49 (a : Nat) (fa : Finite a) (h1 : -1000000 ≤ val a) (h2 : val a ≤ 1000000) :
    ∃ qa f ra, double.div a 4645040803167600640 = some qa ∧ (Finite qa ∧ floorW qa = f) ∧ double.sub qa f = some ra ∧ Finite ra ∧ 0 ≤ val ra ∧ val ra ≤ 1 + 1 / 1000000000000 ∧
      ∃ n : Int, -3000 ≤ n ∧ n ≤ 3000 ∧ val a / 360 - (n : Rat) - 1 / 100000000000 ≤ val ra ∧ val ra ≤ val a / 360 - (n : Rat) + 1 / 100000000000 := by
  obtain ⟨b22, b23⟩ := big1022
  have hu : u = 1 / 9007199254740992 := rfl
  have he := eta_tiny
  have he0 := eta_pos
  obtain ⟨fc, vc⟩ := c360
  obtain ⟨qa, e1, f1, r1⟩ := div_ok a 4645040803167600640 fa fc (by rw [vc]; decide +kernel) (val a / 360) (by rw [vc]; grind) (by grind) (by grind)
  have c1 := r1 2778 (by grind) (by grind)
  rw [hu] at c1
  obtain ⟨f2, n, v2, n1, n2⟩ := floor_ok qa f1 (by grind) (by grind)
  obtain ⟨ra, e3, f3, r3⟩ := sub_ok qa (floorW qa) f1 f2 (by rw [v2]; grind) (by rw [v2]; grind)
  rw [v2] at r3
  have c3 := r3 (val qa - (n : Rat)) (by grind) Rat.le_refl
  rw [hu] at c3
  have z1 : (-3000 : Rat) ≤ (n : Rat) := by grind
  have z2 : (n : Rat) ≤ (3000 : Rat) := by grind
  refine ⟨qa, floorW qa, ra, e1, ⟨f1, rfl⟩, e3, f3, by grind, by grind, n, ?_, ?_, by grind, by grind⟩
  · have : ((-3000 : Int) : Rat) ≤ (n : Rat) := by rw [show ((-3000 : Int) : Rat) = -3000 by decide +kernel]; exact z1
    exact Rat.intCast_le_intCast.1 this
  · have : (n : Rat) ≤ ((3000 : Int) : Rat) := by rw [show ((3000 : Int) : Rat) = 3000 by decide +kernel]; exact z2
    exact Rat.intCast_le_intCast.1 this
/-- one turn more -/
theorem turn49 (x : Nat) (fx : Finite x) (h1 : 0 ≤ val x) (h2 : val x ≤ 2) : ∃ y, double.add x 4607182418800017408 = some y ∧ Finite y ∧ val x + 1 - 1 / 100000000000 ≤ val y ∧ val y ≤ val x + 1 + 1 / 100000000000 := by
  obtain ⟨b22, b23⟩ := big1022
  have hu : u = 1 / 9007199254740992 := rfl
  obtain ⟨fc, vc⟩ := cOne
  obtain ⟨y, e, f, r⟩ := add_ok x 4607182418800017408 fx fc (by rw [vc]; grind) (by rw [vc]; grind)
  rw [vc] at r
  have c := r 3 (by grind) (by grind)
  rw [hu] at c
  exact ⟨y, e, f, by grind, by grind⟩
theorem diff49 (x y : Nat) (fx : Finite x) (fy : Finite y) (h1 : 0 ≤ val x) (h2 : val x ≤ 2) (h3 : 0 ≤ val y) (h4 : val y ≤ 2) : ∃ d, double.sub y x = some d ∧ Finite d ∧ val y - val x - 1 / 100000000000 ≤ val d ∧ val d ≤ val y - val x + 1 / 100000000000 := by
  obtain ⟨b22, b23⟩ := big1022
  have hu : u = 1 / 9007199254740992 := rfl
  obtain ⟨d, e, f, r⟩ := sub_ok y x fy fx (by grind) (by grind)
  have c := r 3 (by grind) (by grind)
  rw [hu] at c
  exact ⟨d, e, f, by grind, by grind⟩
theorem scale {x t M : Rat} (h1 : -M ≤ x) (h2 : x ≤ M) (t1 : 0 ≤ t) (t2 : t ≤ 1) : -M ≤ x * t ∧ x * t ≤ M := by
  have hM : 0 ≤ M := by grind
  have a1 := Rat.mul_le_mul_of_nonneg_right h1 t1
  have a2 := Rat.mul_le_mul_of_nonneg_right h2 t1
  have a3 := Rat.mul_le_mul_of_nonneg_left t2 hM
  exact ⟨by grind, by grind⟩
/-- the step from A to B -/
theorem lerp49 (A B t : Nat) (fA : Finite A) (fB : Finite B) (ft : Finite t) (a1 : 0 ≤ val A) (a2 : val A ≤ 3) (b1 : 0 ≤ val B) (b2 : val B ≤ 3) (t1 : 0 ≤ val t) (t2 : val t ≤ 1) :
    ∃ p q r z, double.sub B A = some p ∧ double.mul p t = some q ∧ double.add q A = some r ∧ double.mul r 4645040803167600640 = some z ∧ Finite z ∧ 360 * (val A + (val B - val A) * val t) - 1 / 1000000000 ≤ val z ∧ val z ≤ 360 * (val A + (val B - val A) * val t) + 1 / 1000000000 := by
  obtain ⟨b22, b23⟩ := big1022
  have hu : u = 1 / 9007199254740992 := rfl
  have he := eta_tiny
  have he0 := eta_pos
  obtain ⟨fc, vc⟩ := c360
  obtain ⟨p, e1, f1, r1⟩ := sub_ok B A fB fA (by grind) (by grind)
  have c1 := r1 3 (by grind) (by grind)
  rw [hu] at c1
  have s1 := scale (x := val B - val A) (t := val t) (M := 3) (by grind) (by grind) t1 t2
  have s2 := scale (x := val p - (val B - val A)) (t := val t) (M := 1 / 1000000000000000) (by grind) (by grind) t1 t2
  have ep : val p * val t = (val B - val A) * val t + (val p - (val B - val A)) * val t := by grind
  obtain ⟨q, e2, f2, r2⟩ := mul_ok p t f1 ft (by grind) (by grind)
  have c2 := r2 4 (by grind) (by grind)
  rw [hu] at c2
  obtain ⟨r, e3, f3, r3⟩ := add_ok q A f2 fA (by grind) (by grind)
  have c3 := r3 8 (by grind) (by grind)
  rw [hu] at c3
  obtain ⟨z, e4, f4, r4⟩ := mul_ok r 4645040803167600640 f3 fc (by rw [vc]; grind) (by rw [vc]; grind)
  rw [vc] at r4
  have c4 := r4 4000 (by grind) (by grind)
  rw [hu] at c4
  exact ⟨p, q, r, z, e1, e2, e3, e4, f4, by grind, by grind⟩
/-- the floor by way of an integer -/
theorem floor49 (x : Nat) (fx : Finite x) (h1 : -100000 ≤ val x) (h2 : val x ≤ 100000) :
    ∃ (n : Int), floatToIntVal .f64 x .i64 = some n ∧ ((gtB (floatOfInt .f64 n) x = false ∧ Finite (floatOfInt .f64 n) ∧ ∃ k : Int, val (floatOfInt .f64 n) = k ∧ (k : Rat) ≤ val x ∧ val x < (k : Rat) + 1) ∨
      (gtB (floatOfInt .f64 n) x = true ∧ ∃ F, double.sub (floatOfInt .f64 n) 4607182418800017408 = some F ∧ Finite F ∧ ∃ k : Int, val F = k ∧ (k : Rat) ≤ val x ∧ val x < (k : Rat) + 1)) := by
  obtain ⟨n, hn, hb, hc⟩ := toInt_trunc x fx (by grind) (by grind)
  have hz1 : ((-100002 : Int) : Rat) < (n : Rat) := by rw [show ((-100002 : Int) : Rat) = -100002 by decide +kernel]; grind
  have hz2 : (n : Rat) < ((100002 : Int) : Rat) := by rw [show ((100002 : Int) : Rat) = 100002 by decide +kernel]; grind
  have hn1 := Rat.intCast_lt_intCast.1 hz1
  have hn2 := Rat.intCast_lt_intCast.1 hz2
  obtain ⟨f, v⟩ := ofInt_ok' n (by omega)
  refine ⟨n, hn, ?_⟩
  rw [gtB_ok f fx, v]
  by_cases hg : val x < (n : Rat)
  · right
    refine ⟨decide_eq_true hg, ?_⟩
    obtain ⟨fo, vo⟩ := cOne
    have ev : val (floatOfInt .f64 n) - val 4607182418800017408 = ((n - 1 : Int) : Rat) := by rw [v, vo, Rat.intCast_sub]; rfl
    obtain ⟨F, e, fF, vF⟩ := sub_exact f fo (by rw [ev]; exact exact_int _ (by omega))
    rw [ev] at vF
    refine ⟨F, e, fF, n - 1, vF, ?_⟩
    rw [Rat.intCast_sub]
    have : ((1 : Int) : Rat) = 1 := rfl
    rw [this]
    exact ⟨by grind, by grind⟩
  · left
    exact ⟨decide_eq_false hg, f, n, rfl, by grind, by grind⟩
end FL
