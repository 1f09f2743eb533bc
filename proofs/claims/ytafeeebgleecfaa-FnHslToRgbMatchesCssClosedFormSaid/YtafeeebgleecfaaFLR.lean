/-
  Plain facts on IEEE double words, continued: hueToRgb's and the closed form's numbers.
-/
import Derived.Test.YtafeeebgleecfaaFLQ
namespace FL
open Ieee Go
set_option linter.unusedVariables false
theorem cThird : Finite 4599676419421066581 ∧ 1 / 3 - 1 / 1000000000000000 ≤ val 4599676419421066581 ∧ val 4599676419421066581 ≤ 1 / 3 + 1 / 1000000000000000 := by refine ⟨?_, ?_, ?_⟩ <;> decide +kernel
/-- the hue in sixths -/
theorem frac6 (hue : Nat) (fh : Finite hue) (h1 : -40 ≤ val hue) (h2 : val hue ≤ 40) :
    ∃ f x0 x, (Finite hue ∧ floorW hue = f) ∧ double.sub hue f = some x0 ∧ double.mul x0 4618441417868443648 = some x ∧ Finite x ∧ 0 ≤ val x ∧ val x ≤ 6 + 1 / 1000000000000 ∧ ∃ j : Int, 6 * val hue - 6 * (j : Rat) - 1 / 1000000000000 ≤ val x ∧ val x ≤ 6 * val hue - 6 * (j : Rat) + 1 / 1000000000000 := by
  obtain ⟨b22, b23⟩ := big1022
  have hu : u = 1 / 9007199254740992 := rfl
  have he := eta_nano
  have he0 := eta_pos
  obtain ⟨fc, vc⟩ := cSix
  obtain ⟨f2, n, v2, n1, n2⟩ := floor_ok hue fh (by grind) (by grind)
  obtain ⟨x0, e3, f3, r3⟩ := sub_ok hue (floorW hue) fh f2 (by rw [v2]; grind) (by rw [v2]; grind)
  rw [v2] at r3
  have g3 := r3 (val hue - (n : Rat)) (by grind) Rat.le_refl
  rw [hu] at g3
  clear r3
  obtain ⟨x, e4, f4, r4⟩ := mul_ok x0 4618441417868443648 f3 fc (by rw [vc]; grind) (by rw [vc]; grind)
  rw [vc] at r4
  have g4 := r4 7 (by grind) (by grind)
  rw [hu] at g4
  clear r4
  have hk0 : 0 ≤ val x := by
    obtain ⟨b, kk, i, e, v⟩ := mul_form f3 fc
    rw [vc] at v
    replace e := Option.some.inj (e4.symm.trans e)
    have h0 := (form_bound (c := 0) (j := 0) v (by grind) (by grind) (by decide) (by decide)).2.2.2
    have z : ((0 : Nat) : Rat) * p2 0 = 0 := Rat.zero_mul _
    rw [z, ← e] at h0
    exact h0 (by grind)
  exact ⟨floorW hue, x0, x, ⟨fh, rfl⟩, e3, e4, f4, hk0, by grind, n, by grind, by grind⟩
theorem lerp6 (t1 t2 y : Nat) (f1 : Finite t1) (f2 : Finite t2) (fy : Finite y) (a1 : -2 ≤ val t1) (a2 : val t1 ≤ 2) (b1 : -2 ≤ val t2) (b2 : val t2 ≤ 2) (y1 : -1 / 1000000000000 ≤ val y) (y2 : val y ≤ 1 + 1 / 1000000000000) :
    ∃ p q z, double.sub t2 t1 = some p ∧ double.mul p y = some q ∧ double.add q t1 = some z ∧ Finite z ∧ val t1 + (val t2 - val t1) * val y - 1 / 1000000000000 ≤ val z ∧ val z ≤ val t1 + (val t2 - val t1) * val y + 1 / 1000000000000 := by
  obtain ⟨b22, b23⟩ := big1022
  have hu : u = 1 / 9007199254740992 := rfl
  have he := eta_nano
  have he0 := eta_pos
  obtain ⟨p, e1, g1, r1⟩ := sub_ok t2 t1 f2 f1 (by grind) (by grind)
  have s1 := r1 4 (by grind) (by grind)
  rw [hu] at s1
  clear r1
  have m1 := mul_le_abs (a := val t2 - val t1) (b := val y) (M := 4) (by grind) (by grind) (by grind) (by grind)
  have m2 := mul_le_abs (a := val p - (val t2 - val t1)) (b := val y) (M := 1 / 1000000000000000) (by grind) (by grind) (by grind) (by grind)
  have ep : val p * val y = (val t2 - val t1) * val y + (val p - (val t2 - val t1)) * val y := by grind
  obtain ⟨q, e2, g2, r2⟩ := mul_ok p y g1 fy (by grind) (by grind)
  have s2 := r2 30 (by grind) (by grind)
  rw [hu] at s2
  clear r2
  obtain ⟨z, e3, g3, r3⟩ := add_ok q t1 g2 f1 (by grind) (by grind)
  have s3 := r3 40 (by grind) (by grind)
  rw [hu] at s3
  clear r3
  exact ⟨p, q, z, e1, e2, e3, g3, by grind, by grind⟩
def Sig (x s : Rat) : Prop := (x < 1 ∧ s = x) ∨ (1 ≤ x ∧ x < 3 ∧ s = 1) ∨ (3 ≤ x ∧ x < 4 ∧ s = 4 - x) ∨ (4 ≤ x ∧ s = 0)
theorem sig_le {x s : Rat} (h : Sig x s) (h0 : 0 ≤ x) : 0 ≤ s ∧ s ≤ 1 := by unfold Sig at h; grind
/-- the two shapes are opposite -/
theorem opposite (x s k y T : Rat) (J : Int) (hS : Sig x s) (x0 : 0 ≤ x) (x1 : x ≤ 6 + 1 / 1000000000000) (k0 : -1 / 10000000000 ≤ k) (k1 : k ≤ 12 + 1 / 10000000000) (h1 : -1 / 10000000000 ≤ x - k / 2 - 2 - 6 * (J : Rat)) (h2 : x - k / 2 - 2 - 6 * (J : Rat) ≤ 1 / 10000000000)
    (y1 : y = k - 3 ∨ y = 9 - k ∨ y = 1) (y2 : y ≤ k - 3) (y3 : y ≤ 9 - k) (y4 : y ≤ 1) (t1 : -1 ≤ y → T = y) (t2 : y ≤ -1 → T = -1) : -1 / 2000000000 ≤ 2 * s - 1 + T ∧ 2 * s - 1 + T ≤ 1 / 2000000000 := by
  have z1 : (-2 : Rat) < (J : Rat) := by grind
  have z2 : (J : Rat) < 1 := by grind
  have i1 : -2 < J := by
    have : ((-2 : Int) : Rat) < (J : Rat) := by rw [show ((-2 : Int) : Rat) = -2 by decide +kernel]; exact z1
    exact Rat.intCast_lt_intCast.1 this
  have i2 : J < 1 := by
    have : (J : Rat) < ((1 : Int) : Rat) := by rw [show ((1 : Int) : Rat) = 1 by decide +kernel]; exact z2
    exact Rat.intCast_lt_intCast.1 this
  clear z1 z2
  have e0 : ((0 : Int) : Rat) = 0 := rfl
  have e2 : ((-1 : Int) : Rat) = -1 := by decide +kernel
  have hT : (-1 ≤ y ∧ T = y) ∨ (y ≤ -1 ∧ T = -1) := by
    rcases (by grind : -1 ≤ y ∨ y ≤ -1) with h | h
    · exact .inl ⟨h, t1 h⟩
    · exact .inr ⟨h, t2 h⟩
  clear t1 t2
  rcases (by omega : J = 0 ∨ J = -1) with rfl | rfl
  · rw [e0] at h1 h2
    rcases hS with ⟨a, b⟩ | ⟨a, b, c⟩ | ⟨a, b, c⟩ | ⟨a, b⟩ <;> rcases hT with ⟨d, e⟩ | ⟨d, e⟩ <;> constructor <;> rcases y1 with f | f | f <;> grind
  · rw [e2] at h1 h2
    rcases hS with ⟨a, b⟩ | ⟨a, b, c⟩ | ⟨a, b, c⟩ | ⟨a, b⟩ <;> rcases hT with ⟨d, e⟩ | ⟨d, e⟩ <;> constructor <;> rcases y1 with f | f | f <;> grind
def minF (x y : Nat) : Nat := if ltB x y then x else y
def maxF (x y : Nat) : Nat := if gtB x y then x else y
theorem minF_ok {x y : Nat} (hx : Finite x) (hy : Finite y) : Finite (minF x y) ∧ val (minF x y) ≤ val x ∧ val (minF x y) ≤ val y ∧ (minF x y = x ∨ minF x y = y) := by
  unfold minF
  rw [ltB_ok hx hy]
  by_cases h : val x < val y
  · rw [decide_eq_true h, if_pos rfl]; exact ⟨hx, Rat.le_refl, Rat.le_of_lt h, .inl rfl⟩
  · rw [decide_eq_false h, if_neg (by decide)]; exact ⟨hy, by grind, Rat.le_refl, .inr rfl⟩
theorem maxF_ok {x y : Nat} (hx : Finite x) (hy : Finite y) : Finite (maxF x y) ∧ val x ≤ val (maxF x y) ∧ val y ≤ val (maxF x y) ∧ (maxF x y = x ∨ maxF x y = y) := by
  unfold maxF
  rw [gtB_ok hx hy]
  by_cases h : val y < val x
  · rw [decide_eq_true h, if_pos rfl]; exact ⟨hx, Rat.le_refl, Rat.le_of_lt h, .inl rfl⟩
  · rw [decide_eq_false h, if_neg (by decide)]; exact ⟨hy, by grind, Rat.le_refl, .inr rfl⟩
/-- the law's number modulo 12 -/
theorem modlaw (x : Nat) (fx : Finite x) (h1 : -400 ≤ val x) (h2 : val x ≤ 400) :
    ∃ q, double.div x 4622945017495814144 = some q ∧ Finite q ∧ -100000 ≤ val q ∧ val q ≤ 100000 ∧ ∀ F (kf : Int), Finite F → val F = kf → (kf : Rat) ≤ val q → val q < (kf : Rat) + 1 →
      ∃ G k, double.mul 4622945017495814144 F = some G ∧ double.sub x G = some k ∧ Finite k ∧ -1 / 10000000000 ≤ val k ∧ val k ≤ 12 + 1 / 10000000000 ∧ val x - 12 * (kf : Rat) - 1 / 1000000000000 ≤ val k ∧ val k ≤ val x - 12 * (kf : Rat) + 1 / 1000000000000 := by
  obtain ⟨b22, b23⟩ := big1022
  have hu : u = 1 / 9007199254740992 := rfl
  have he := eta_nano
  have he0 := eta_pos
  obtain ⟨fc, vc⟩ := c12
  obtain ⟨q, e1, f1, r1⟩ := div_ok x 4622945017495814144 fx fc (by rw [vc]; decide +kernel) (val x / 12) (by rw [vc]; grind) (by grind) (by grind)
  have s1 := r1 40 (by grind) (by grind)
  rw [hu] at s1
  clear r1
  refine ⟨q, e1, f1, by grind, by grind, fun F kf fF vF g1 g2 => ?_⟩
  have z3 : (kf : Rat) < 100 := by grind
  have z4 : (-100 : Rat) < (kf : Rat) := by grind
  have i3 : kf < 100 := by
    have : (kf : Rat) < ((100 : Int) : Rat) := by rw [show ((100 : Int) : Rat) = 100 by decide +kernel]; exact z3
    exact Rat.intCast_lt_intCast.1 this
  have i4 : -100 < kf := by
    have : ((-100 : Int) : Rat) < (kf : Rat) := by rw [show ((-100 : Int) : Rat) = -100 by decide +kernel]; exact z4
    exact Rat.intCast_lt_intCast.1 this
  have eG : val 4622945017495814144 * val F = ((12 * kf : Int) : Rat) := by rw [vc, vF, Rat.intCast_mul]; rfl
  obtain ⟨G, e3, f3, v3⟩ := mul_exact fc fF (by rw [eG]; exact exact_int _ (by omega))
  rw [eG, Rat.intCast_mul, show ((12 : Int) : Rat) = 12 by decide +kernel] at v3
  obtain ⟨k, e4, f4, r4⟩ := sub_ok x G fx f3 (by rw [v3]; grind) (by rw [v3]; grind)
  rw [v3] at r4
  have s4 := r4 100 (by grind) (by grind)
  rw [hu] at s4
  clear r4
  exact ⟨G, k, e3, e4, f4, by grind, by grind, by grind, by grind⟩
/-- the law's channel after its number modulo 12 -/
theorem shapelaw (k l a : Nat) (fk : Finite k) (fl : Finite l) (fa : Finite a) (k1 : -1 ≤ val k) (k2 : val k ≤ 13) (l1 : 0 ≤ val l) (l2 : val l ≤ 1) (a1 : 0 ≤ val a) (a2 : val a ≤ 1) :
    ∃ x1 x2 y z, double.sub k 4613937818241073152 = some x1 ∧ double.sub 4621256167635550208 k = some x2 ∧ double.mul a (maxF 13830554455654793216 (minF (minF x1 x2) 4607182418800017408)) = some y ∧ double.sub l y = some z ∧ Finite z ∧
      ∃ w T : Rat, (w = val k - 3 ∨ w = 9 - val k ∨ w = 1) ∧ w ≤ val k - 3 ∧ w ≤ 9 - val k ∧ w ≤ 1 ∧ (-1 ≤ w → T = w) ∧ (w ≤ -1 → T = -1) ∧ -1 ≤ T ∧ T ≤ 1 ∧ val l - val a * T - 1 / 1000000000000 ≤ val z ∧ val z ≤ val l - val a * T + 1 / 1000000000000 := by
  obtain ⟨b22, b23⟩ := big1022
  have hu : u = 1 / 9007199254740992 := rfl
  have he := eta_nano
  have he0 := eta_pos
  obtain ⟨f3, v3⟩ := c3
  obtain ⟨f9, v9⟩ := c9
  obtain ⟨fo, vo⟩ := cOne
  obtain ⟨fm, vm⟩ := cm1
  obtain ⟨x1, e1, g1, r1⟩ := sub_ok k 4613937818241073152 fk f3 (by rw [v3]; grind) (by rw [v3]; grind)
  rw [v3] at r1
  have s1 := r1 20 (by grind) (by grind)
  rw [hu] at s1
  clear r1
  obtain ⟨x2, e2, g2, r2⟩ := sub_ok 4621256167635550208 k f9 fk (by rw [v9]; grind) (by rw [v9]; grind)
  rw [v9] at r2
  have s2 := r2 20 (by grind) (by grind)
  rw [hu] at s2
  clear r2
  have m1 := minF_ok g1 g2
  have m2 := minF_ok m1.1 fo
  have m3 := maxF_ok fm m2.1
  obtain ⟨w, y1, y2, y3, y4⟩ := least3 (val k - 3) (9 - val k) 1
  have c1 : w - 1 / 100000000000000 ≤ val (minF (minF x1 x2) 4607182418800017408) ∧ val (minF (minF x1 x2) 4607182418800017408) ≤ w + 1 / 100000000000000 := by
    obtain ⟨-, a1, a2, a3⟩ := m1
    obtain ⟨-, a4, a5, a6⟩ := m2
    rw [vo] at a5
    constructor
    · rcases a6 with e | e
      · rw [e]
        rcases a3 with e' | e' <;> rw [e'] <;> grind
      · rw [e, vo]; grind
    · rcases y1 with e | e | e <;> rw [e] <;> grind
  obtain ⟨T, T1, T2, T3, T4⟩ : ∃ T : Rat, (-1 ≤ w → T = w) ∧ (w ≤ -1 → T = -1) ∧ -1 ≤ T ∧ T ≤ 1 := by
    rcases (by grind : -1 ≤ w ∨ w ≤ -1) with h | h
    · exact ⟨w, fun _ => rfl, fun h' => by grind, h, y4⟩
    · exact ⟨-1, fun h' => by grind, fun _ => rfl, by grind, by grind⟩
  have c2 : T - 1 / 100000000000000 ≤ val (maxF 13830554455654793216 (minF (minF x1 x2) 4607182418800017408)) ∧ val (maxF 13830554455654793216 (minF (minF x1 x2) 4607182418800017408)) ≤ T + 1 / 100000000000000 := by
    obtain ⟨-, a1, a2, a3⟩ := m3
    rw [vm] at a1
    rcases (by grind : -1 ≤ w ∨ w ≤ -1) with h | h
    · have := T1 h
      constructor
      · grind
      · rcases a3 with e | e <;> rw [e]
        · rw [vm]; grind
        · grind
    · have := T2 h
      constructor
      · grind
      · rcases a3 with e | e <;> rw [e]
        · rw [vm]; grind
        · grind
  have ft := m3.1
  generalize ht : maxF 13830554455654793216 (minF (minF x1 x2) 4607182418800017408) = t at *
  clear m1 m2 m3 c1
  have n1 := mul_le_abs (a := val t - T) (b := val a) (M := 1 / 100000000000000) (by grind) (by grind) (by grind) (by grind)
  have n2 := mul_le_abs (a := T) (b := val a) (M := 1) (by grind) (by grind) (by grind) (by grind)
  have ep : val a * val t = val a * T + (val t - T) * val a := by grind
  obtain ⟨y, e3, g3, r3⟩ := mul_ok a t fa ft (by grind) (by grind)
  have s3 := r3 7 (by grind) (by grind)
  rw [hu] at s3
  clear r3
  obtain ⟨z, e4, g4, r4⟩ := sub_ok l y fl g3 (by grind) (by grind)
  have s4 := r4 9 (by grind) (by grind)
  rw [hu] at s4
  clear r4
  exact ⟨x1, x2, y, z, e1, e2, by rw [ht]; exact e3, e4, g4, w, T, y1, y2, y3, y4, T1, T2, T3, T4, by grind, by grind⟩
end FL
