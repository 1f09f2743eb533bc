/-
  Plain facts on IEEE double words, continued: one channel of hsl_to_rgb.
-/
import Derived.Test.YtafeeebgleecfaaFLN
namespace FL
open Ieee
set_option linter.unusedVariables false
theorem c30 : Finite 4629137466983448576 ∧ val 4629137466983448576 = 30 := by constructor <;> decide +kernel
theorem c12 : Finite 4622945017495814144 ∧ val 4622945017495814144 = 12 := by constructor <;> decide +kernel
theorem c3 : Finite 4613937818241073152 ∧ val 4613937818241073152 = 3 := by constructor <;> decide +kernel
theorem c9 : Finite 4621256167635550208 ∧ val 4621256167635550208 = 9 := by constructor <;> decide +kernel
theorem cm1 : Finite 13830554455654793216 ∧ val 13830554455654793216 = -1 := by constructor <;> decide +kernel
/-- a number taken modulo 12, as the code does it -/
theorem mod12 (x : Nat) (fx : Finite x) (h1 : -100 ≤ val x) (h2 : val x ≤ 100) :
    ∃ k2 fk k3 k, double.div x 4622945017495814144 = some k2 ∧ (Finite k2 ∧ floorW k2 = fk) ∧ double.sub k2 fk = some k3 ∧ double.mul k3 4622945017495814144 = some k ∧ Finite k ∧ 0 ≤ val k ∧ val k ≤ 12 + 1 / 1000000000000 ∧ ∃ j : Int, val x - 12 * (j : Rat) - 1 / 1000000000000 ≤ val k ∧ val k ≤ val x - 12 * (j : Rat) + 1 / 1000000000000 := by
  obtain ⟨b22, b23⟩ := big1022
  have hu : u = 1 / 9007199254740992 := rfl
  have he := eta_tiny
  have he0 := eta_pos
  obtain ⟨fc, vc⟩ := c12
  obtain ⟨k2, e1, f1, r1⟩ := div_ok x 4622945017495814144 fx fc (by rw [vc]; decide +kernel) (val x / 12) (by rw [vc]; grind) (by grind) (by grind)
  have g1 := r1 9 (by grind) (by grind)
  rw [hu] at g1
  obtain ⟨f2, n, v2, n1, n2⟩ := floor_ok k2 f1 (by grind) (by grind)
  obtain ⟨k3, e3, f3, r3⟩ := sub_ok k2 (floorW k2) f1 f2 (by rw [v2]; grind) (by rw [v2]; grind)
  rw [v2] at r3
  have g3 := r3 (val k2 - (n : Rat)) (by grind) Rat.le_refl
  rw [hu] at g3
  obtain ⟨k, e4, f4, r4⟩ := mul_ok k3 4622945017495814144 f3 fc (by rw [vc]; grind) (by rw [vc]; grind)
  rw [vc] at r4
  have g4 := r4 13 (by grind) (by grind)
  rw [hu] at g4
  have hk0 : 0 ≤ val k := by
    have hb := r4 (val k3 * 12) (by grind) Rat.le_refl
    rw [hu] at hb
    have hf := form_bound (b := false) (k := 0) (i := 0) (v := 0)
    obtain ⟨b, kk, i, e, v⟩ := mul_form f3 fc
    rw [vc] at v
    replace e := Option.some.inj (e4.symm.trans e)
    have h0 := (form_bound (c := 0) (j := 0) v (by grind) (by grind) (by decide) (by decide)).2.2.2
    have z : ((0 : Nat) : Rat) * p2 0 = 0 := Rat.zero_mul _
    rw [z, ← e] at h0
    exact h0 (by grind)
  refine ⟨k2, floorW k2, k3, k, e1, ⟨f1, rfl⟩, e3, e4, f4, hk0, by grind, n, by grind, by grind⟩
/-- the exact shape of a channel over the circle of twelve, unrolled to twenty -/
def Trap (x T : Rat) : Prop := (0 ≤ x ∧ x ≤ 2 ∧ T = -1) ∨ (2 ≤ x ∧ x ≤ 4 ∧ T = x - 3) ∨ (4 ≤ x ∧ x ≤ 8 ∧ T = 1) ∨ (8 ≤ x ∧ x ≤ 10 ∧ T = 9 - x) ∨ (10 ≤ x ∧ x ≤ 14 ∧ T = -1) ∨ (14 ≤ x ∧ x ≤ 16 ∧ T = x - 15) ∨ (16 ≤ x ∧ x ≤ 20 ∧ T = 1)
theorem trap_near (x T k : Rat) (j : Int) (hT : Trap x T) (k1 : 0 ≤ k) (k2 : k ≤ 12 + 1 / 1000000000000) (h1 : x - 12 * (j : Rat) - 1 / 4000000000 ≤ k) (h2 : k ≤ x - 12 * (j : Rat) + 1 / 4000000000) (y : Rat)
    (y1 : y = k - 3 ∨ y = 9 - k ∨ y = 1) (y2 : y ≤ k - 3) (y3 : y ≤ 9 - k) (y4 : y ≤ 1) : (-1 ≤ y → T - 1 / 3000000000 ≤ y ∧ y ≤ T + 1 / 3000000000) ∧ (y ≤ -1 → T - 1 / 3000000000 ≤ -1 ∧ -1 ≤ T + 1 / 3000000000) := by
  have hx : 0 ≤ x ∧ x ≤ 20 := by unfold Trap at hT; grind
  have z1 : (-2 : Rat) < (j : Rat) := by grind
  have z2 : (j : Rat) < 2 := by grind
  have i1 : -2 < j := by
    have : ((-2 : Int) : Rat) < (j : Rat) := by rw [show ((-2 : Int) : Rat) = -2 by decide +kernel]; exact z1
    exact Rat.intCast_lt_intCast.1 this
  have i2 : j < 2 := by
    have : (j : Rat) < ((2 : Int) : Rat) := by rw [show ((2 : Int) : Rat) = 2 by decide +kernel]; exact z2
    exact Rat.intCast_lt_intCast.1 this
  clear z1 z2
  have e0 : ((0 : Int) : Rat) = 0 := rfl
  have e1 : ((1 : Int) : Rat) = 1 := rfl
  have e2 : ((-1 : Int) : Rat) = -1 := by decide +kernel
  rcases (by omega : j = 0 ∨ j = 1 ∨ j = -1) with rfl | rfl | rfl
  · rw [e0] at h1 h2
    rcases hT with ⟨a, b, c⟩ | ⟨a, b, c⟩ | ⟨a, b, c⟩ | ⟨a, b, c⟩ | ⟨a, b, c⟩ | ⟨a, b, c⟩ | ⟨a, b, c⟩ <;> (constructor <;> intro hy <;> constructor <;> rcases y1 with e | e | e <;> grind)
  · rw [e1] at h1 h2
    rcases hT with ⟨a, b, c⟩ | ⟨a, b, c⟩ | ⟨a, b, c⟩ | ⟨a, b, c⟩ | ⟨a, b, c⟩ | ⟨a, b, c⟩ | ⟨a, b, c⟩ <;> (constructor <;> intro hy <;> constructor <;> rcases y1 with e | e | e <;> grind)
  · rw [e2] at h1 h2
    rcases hT with ⟨a, b, c⟩ | ⟨a, b, c⟩ | ⟨a, b, c⟩ | ⟨a, b, c⟩ | ⟨a, b, c⟩ | ⟨a, b, c⟩ | ⟨a, b, c⟩ <;> (constructor <;> intro hy <;> constructor <;> rcases y1 with e | e | e <;> grind)
theorem prod_near {T T0 a A e : Rat} (h1 : T0 - e ≤ T) (h2 : T ≤ T0 + e) (h3 : A - e ≤ a) (h4 : a ≤ A + e) (t1 : -1 ≤ T0) (t2 : T0 ≤ 1) (a1 : -1 ≤ a) (a2 : a ≤ 1) (he : 0 ≤ e) : T0 * A - 2 * e ≤ T * a ∧ T * a ≤ T0 * A + 2 * e := by
  have m1 : -e ≤ (T - T0) * a ∧ (T - T0) * a ≤ e := by
    rcases (by grind : 0 ≤ a ∨ a ≤ 0) with h | h
    · have q1 := Rat.mul_le_mul_of_nonneg_right (show T - T0 ≤ e by grind) h
      have q2 := Rat.mul_le_mul_of_nonneg_right (show -e ≤ T - T0 by grind) h
      have q3 := Rat.mul_le_mul_of_nonneg_left a2 he
      exact ⟨by grind, by grind⟩
    · have h' : 0 ≤ -a := by grind
      have q1 := Rat.mul_le_mul_of_nonneg_right (show T - T0 ≤ e by grind) h'
      have q2 := Rat.mul_le_mul_of_nonneg_right (show -e ≤ T - T0 by grind) h'
      have q3 := Rat.mul_le_mul_of_nonneg_left (show -a ≤ 1 by grind) he
      exact ⟨by grind, by grind⟩
  have m2 : -e ≤ T0 * (a - A) ∧ T0 * (a - A) ≤ e := by
    rcases (by grind : 0 ≤ T0 ∨ T0 ≤ 0) with h | h
    · have q1 := Rat.mul_le_mul_of_nonneg_left (show a - A ≤ e by grind) h
      have q2 := Rat.mul_le_mul_of_nonneg_left (show -e ≤ a - A by grind) h
      have q3 := Rat.mul_le_mul_of_nonneg_right t2 he
      exact ⟨by grind, by grind⟩
    · have h' : 0 ≤ -T0 := by grind
      have q1 := Rat.mul_le_mul_of_nonneg_left (show a - A ≤ e by grind) h'
      have q2 := Rat.mul_le_mul_of_nonneg_left (show -e ≤ a - A by grind) h'
      have q3 := Rat.mul_le_mul_of_nonneg_right (show -T0 ≤ 1 by grind) he
      exact ⟨by grind, by grind⟩
  exact ⟨by grind, by grind⟩
theorem trap_le {x T : Rat} (h : Trap x T) : -1 ≤ T ∧ T ≤ 1 := by unfold Trap at h; grind
end FL
