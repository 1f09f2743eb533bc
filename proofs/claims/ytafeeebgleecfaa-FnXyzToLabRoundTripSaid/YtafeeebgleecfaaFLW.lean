/-
  Plain facts on IEEE double words, continued: the first step of a cube root (a quotient of two squares).
-/
import Derived.Test.YtafeeebgleecfaaFLV
namespace FL
open Ieee
set_option linter.unusedVariables false
theorem p100 : p2 100 = 1267650600228229401496703205376 ∧ eta * 100000000000000000 ≤ p2 (-100) := by
  refine ⟨by decide +kernel, ?_⟩
  have g1 : p2 (-1074) * p2 974 = p2 (-100) := by rw [← p2_add]; rfl
  have g2 : p2 60 ≤ p2 974 := p2_le (by decide)
  have g3 : p2 60 = 1152921504606846976 := by decide +kernel
  have g4 := Rat.mul_le_mul_of_nonneg_left g2 (Rat.le_of_lt (p2_pos (-1074)))
  have g5 := eta_half
  have g6 := p2_pos (-1074)
  rw [g3, g1] at g4
  grind
theorem p100b : p2 100 < p2 1022 ∧ p2 100 < p2 1023 := by
  have g1 : p2 101 ≤ p2 1022 := p2_le (by decide)
  have g2 : p2 101 ≤ p2 1023 := p2_le (by decide)
  have g3 : p2 101 = 2 * p2 100 := half_p2 101
  have g4 := p2_pos 100
  exact ⟨by grind, by grind⟩
theorem mul_rel (x y : Nat) (fx : Finite x) (fy : Finite y) (h1 : p2 (-100) ≤ val x * val y) (h2 : val x * val y ≤ p2 100) :
    ∃ r, double.mul x y = some r ∧ Finite r ∧ val x * val y * (1 - 1 / 4000000000000000) ≤ val r ∧ val r ≤ val x * val y * (1 + 1 / 4000000000000000) := by
  obtain ⟨a1, a3⟩ := p100
  obtain ⟨b1, b2⟩ := p100b
  have hp := p2_pos (-100)
  obtain ⟨r, e, f, hr⟩ := mul_ok x y fx fy (by grind) (by grind)
  have hs := hr (val x * val y) (by grind) Rat.le_refl
  clear hr
  have hu : u = 1 / 9007199254740992 := rfl
  rw [hu] at hs
  generalize val x * val y = P at *
  exact ⟨r, e, f, by grind, by grind⟩
theorem div_rel (x y : Nat) (fx : Finite x) (fy : Finite y) (h0 : val y ≠ 0) (v : Rat) (hv : v * val y = val x) (h1 : p2 (-100) ≤ v) (h2 : v ≤ p2 100) :
    ∃ r, double.div x y = some r ∧ Finite r ∧ v * (1 - 1 / 4000000000000000) ≤ val r ∧ val r ≤ v * (1 + 1 / 4000000000000000) := by
  obtain ⟨a1, a3⟩ := p100
  obtain ⟨b1, b2⟩ := p100b
  have hp := p2_pos (-100)
  obtain ⟨r, e, f, hr⟩ := div_ok x y fx fy h0 v hv (by grind) (by grind)
  have hs := hr v (by grind) Rat.le_refl
  clear hr hv
  have hu : u = 1 / 9007199254740992 := rfl
  rw [hu] at hs
  exact ⟨r, e, f, by grind, by grind⟩
theorem add_abs (x y : Nat) (fx : Finite x) (fy : Finite y) (h1 : -4 ≤ val x + val y) (h2 : val x + val y ≤ 4) :
    ∃ r, double.add x y = some r ∧ Finite r ∧ -(1 / 1000000000000000) ≤ val r - (val x + val y) ∧ val r - (val x + val y) ≤ 1 / 1000000000000000 := by
  obtain ⟨b22, b23⟩ := big1022
  obtain ⟨r, e, f, hr⟩ := add_ok x y fx fy (by grind) (by grind)
  have hs := hr 4 (by grind) (by grind)
  clear hr
  have hu : u = 1 / 9007199254740992 := rfl
  rw [hu] at hs
  exact ⟨r, e, f, by grind, by grind⟩
theorem div_abs (x y : Nat) (fx : Finite x) (fy : Finite y) (h0 : val y ≠ 0) (v : Rat) (hv : v * val y = val x) (h1 : -4 ≤ v) (h2 : v ≤ 4) :
    ∃ r, double.div x y = some r ∧ Finite r ∧ -(1 / 1000000000000000) ≤ val r - v ∧ val r - v ≤ 1 / 1000000000000000 := by
  obtain ⟨b22, b23⟩ := big1022
  have he := eta_nano
  have he0 := eta_pos
  obtain ⟨r, e, f, hr⟩ := div_ok x y fx fy h0 v hv (by grind) (by grind)
  have hs := hr 4 (by grind) (by grind)
  clear hr
  have hu : u = 1 / 9007199254740992 := rfl
  rw [hu] at hs
  exact ⟨r, e, f, by grind, by grind⟩
theorem small_of {a b c M : Rat} (h : a * b = c) (hb : 1 ≤ b) (h1 : -M ≤ c) (h2 : c ≤ M) : -M ≤ a ∧ a ≤ M := by
  rcases (by grind : 0 ≤ a ∨ a ≤ 0) with ha | ha
  · have := Rat.mul_le_mul_of_nonneg_left hb ha
    exact ⟨by grind, by grind⟩
  · have := Rat.mul_le_mul_of_nonneg_left hb (show 0 ≤ -a by grind)
    exact ⟨by grind, by grind⟩
theorem cC : Finite 4603064841997850097 ∧ -(1 / 1000000000000000) ≤ val 4603064841997850097 - 19 / 35 ∧ val 4603064841997850097 - 19 / 35 ≤ 1 / 1000000000000000 := by refine ⟨?_, ?_, ?_⟩ <;> decide +kernel
theorem cD : Finite 13827900089180538932 ∧ -(1 / 1000000000000000) ≤ val 13827900089180538932 + 864 / 1225 ∧ val 13827900089180538932 + 864 / 1225 ≤ 1 / 1000000000000000 := by refine ⟨?_, ?_, ?_⟩ <;> decide +kernel
theorem cE : Finite 4609048195788499471 ∧ -(1 / 1000000000000000) ≤ val 4609048195788499471 - 99 / 70 ∧ val 4609048195788499471 - 99 / 70 ≤ 1 / 1000000000000000 := by refine ⟨?_, ?_, ?_⟩ <;> decide +kernel
theorem cF : Finite 4609916747145206638 ∧ -(1 / 1000000000000000) ≤ val 4609916747145206638 - 45 / 28 ∧ val 4609916747145206638 - 45 / 28 ≤ 1 / 1000000000000000 := by refine ⟨?_, ?_, ?_⟩ <;> decide +kernel
theorem cG : Finite 4600105333671292343 ∧ -(1 / 1000000000000000) ≤ val 4600105333671292343 - 5 / 14 ∧ val 4600105333671292343 - 5 / 14 ≤ 1 / 1000000000000000 := by refine ⟨?_, ?_, ?_⟩ <;> decide +kernel
/-- the quotient of two squares that comes near the inverse cube root -/
theorem pade {g h : Rat} (g1 : 5 / 6 ≤ g) (g2 : g ≤ 7 / 6) (hh : h * (14 * (g * g) + 35 * g + 5) = 5 * (g * g) + 35 * g + 14) : -(1 / 100000) ≤ g * (h * h * h) - 1 ∧ g * (h * h * h) - 1 ≤ 1 / 100000 ∧ 8 / 10 ≤ h ∧ h ≤ 13 / 10 := by
  obtain ⟨d, hd⟩ : ∃ d, d = g - 1 := ⟨_, rfl⟩
  obtain ⟨Q, hQ⟩ : ∃ Q, Q = 14 * (g * g) + 35 * g + 5 := ⟨_, rfl⟩
  have hQ2 : Q = 54 + 63 * d + 14 * (d * d) := by rw [hQ, hd]; grind
  have hP2 : h * Q = 54 + 45 * d + 5 * (d * d) := by rw [hQ, hh, hd]; grind
  have d1 : -(1 / 6) ≤ d := by grind
  have d2 : d ≤ 1 / 6 := by grind
  have dd0 : 0 ≤ d * d := by rcases (by grind : 0 ≤ d ∨ d ≤ 0) with h | h
                             · exact Rat.mul_nonneg h h
                             · have := Rat.mul_nonneg (show 0 ≤ -d by grind) (show 0 ≤ -d by grind); grind
  have dd1 : d * d ≤ 1 / 36 := by
    rcases (by grind : 0 ≤ d ∨ d ≤ 0) with h | h
    · have := sq_le_sq h d2; grind
    · have := sq_le_sq (show 0 ≤ -d by grind) (show -d ≤ 1 / 6 by grind); grind
  have hQp : 43 ≤ Q := by grind
  have hQu : Q ≤ 65 := by grind
  have hhl : 8 / 10 ≤ h := by
    refine mul_le_cancel (show 0 < Q by grind) ?_
    rw [hP2, hQ2]; grind
  have hhu : h ≤ 13 / 10 := by
    refine mul_le_cancel (show 0 < Q by grind) ?_
    rw [hP2, hQ2]; grind
  have q4 : d * d * (d * d) ≤ 1 / 1296 := by have := sq_le_sq dd0 dd1; grind
  have q40 : 0 ≤ d * d * (d * d) := Rat.mul_nonneg dd0 dd0
  obtain ⟨z, hz⟩ : ∃ z, z = d * (756 + 756 * d + 125 * (d * d)) := ⟨_, rfl⟩
  have z1 : -150 ≤ z := by rw [hz]; have := Rat.mul_le_mul_of_nonneg_left d1 dd0; grind
  have z2 : z ≤ 150 := by rw [hz]; have := Rat.mul_le_mul_of_nonneg_left d2 dd0; grind
  have key : (g * (h * h * h) - 1) * (Q * Q * Q) = d * d * (d * d) * z := by
    have e1 : (g * (h * h * h) - 1) * (Q * Q * Q) = (1 + d) * ((h * Q) * (h * Q) * (h * Q)) - Q * Q * Q := by rw [hd]; grind
    rw [e1, hP2, hQ2, hz]; grind
  have c1 := Rat.mul_le_mul_of_nonneg_left z2 q40
  have c2 := Rat.mul_le_mul_of_nonneg_left z1 q40
  have hQ3 : 79507 ≤ Q * Q * Q := by have := cube_mono (show (0 : Rat) ≤ 43 by decide +kernel) hQp; grind
  have c3 : (g * (h * h * h) - 1) * 70000 * (Q * Q * Q / 70000) = d * d * (d * d) * z := by rw [← key]; grind
  obtain ⟨k1, k2⟩ := small_of c3 (by grind) (show -(150 / 1296) ≤ d * d * (d * d) * z by grind) (by grind)
  exact ⟨by grind, by grind, hhl, hhu⟩
/-- the same in rounded steps -/
theorem pade_near {g s E D F G v d e w q h c m a : Rat} (g1 : 5 / 6 ≤ g) (g2 : g ≤ 7 / 6) (m1 : -(4 / 1000000000000000) ≤ m - g) (m2 : m - g ≤ 4 / 1000000000000000)
    (c1 : -(1 / 1000000000000000) ≤ c - 19 / 35) (c2 : c - 19 / 35 ≤ 1 / 1000000000000000) (s1 : -(1 / 1000000000000000) ≤ s - (c + m)) (s2 : s - (c + m) ≤ 1 / 1000000000000000)
    (E1 : -(1 / 1000000000000000) ≤ E - 99 / 70) (E2 : E - 99 / 70 ≤ 1 / 1000000000000000) (a1 : -(1 / 1000000000000000) ≤ a - (s + E)) (a2 : a - (s + E) ≤ 1 / 1000000000000000)
    (D1 : -(1 / 1000000000000000) ≤ D + 864 / 1225) (D2 : D + 864 / 1225 ≤ 1 / 1000000000000000) (hv : v * s = D) (v1 : -1 ≤ v) (v2 : v ≤ 1) (d1 : -(1 / 1000000000000000) ≤ d - v) (d2 : d - v ≤ 1 / 1000000000000000)
    (e1 : -(1 / 1000000000000000) ≤ e - (a + d)) (e2 : e - (a + d) ≤ 1 / 1000000000000000) (F1 : -(1 / 1000000000000000) ≤ F - 45 / 28) (F2 : F - 45 / 28 ≤ 1 / 1000000000000000) (hw : w * e = F) (w1 : -1 ≤ w) (w2 : w ≤ 1)
    (q1 : -(1 / 1000000000000000) ≤ q - w) (q2 : q - w ≤ 1 / 1000000000000000) (G1 : -(1 / 1000000000000000) ≤ G - 5 / 14) (G2 : G - 5 / 14 ≤ 1 / 1000000000000000) (h1 : -(1 / 1000000000000000) ≤ h - (G + q)) (h2 : h - (G + q) ≤ 1 / 1000000000000000) :
    ∃ H, H * (14 * (g * g) + 35 * g + 5) = 5 * (g * g) + 35 * g + 14 ∧ -(1 / 1000000000000) ≤ h - H ∧ h - H ≤ 1 / 1000000000000 := by
  obtain ⟨S, hS⟩ : ∃ S, S = g + 19 / 35 := ⟨_, rfl⟩
  have sS1 : -(6 / 1000000000000000) ≤ s - S := by grind
  have sS2 : s - S ≤ 6 / 1000000000000000 := by grind
  have hS0 : 1 ≤ S := by grind
  obtain ⟨V, hV⟩ : ∃ V, V * S = -(864 / 1225) := ⟨-(864 / 1225) / S, Rat.div_mul_cancel (by grind)⟩
  have k1 := mul_le_abs (a := S - s) (b := v) (M := 6 / 1000000000000000) (by grind) (by grind) (by grind) (by grind)
  have e3 : (v - V) * S = (S - s) * v + (D + 864 / 1225) := by grind
  obtain ⟨vV1, vV2⟩ := small_of e3 hS0 (M := 37 / 1000000000000000) (by grind) (by grind)
  obtain ⟨A, hA⟩ : ∃ A, A = S + 99 / 70 + V := ⟨_, rfl⟩
  have eA1 : -(50 / 1000000000000000) ≤ e - A := by grind
  have eA2 : e - A ≤ 50 / 1000000000000000 := by grind
  have hA0 : 1 ≤ A := by grind
  obtain ⟨W, hW⟩ : ∃ W, W * A = 45 / 28 := ⟨45 / 28 / A, Rat.div_mul_cancel (by grind)⟩
  have k2 := mul_le_abs (a := A - e) (b := w) (M := 50 / 1000000000000000) (by grind) (by grind) (by grind) (by grind)
  have e4 : (w - W) * A = (A - e) * w + (F - 45 / 28) := by grind
  obtain ⟨wW1, wW2⟩ := small_of e4 hA0 (M := 301 / 1000000000000000) (by grind) (by grind)
  refine ⟨5 / 14 + W, ?_, by grind, by grind⟩
  have e5 : A * S = (14 * (g * g) + 35 * g + 5) / 14 := by
    rw [hA]
    have : (S + 99 / 70 + V) * S = S * S + 99 / 70 * S + V * S := by grind
    rw [this, hV, hS]; grind
  have e6 : W * (14 * (g * g) + 35 * g + 5) = 14 * (W * A) * S := by
    have : W * (14 * (g * g) + 35 * g + 5) = 14 * (W * ((14 * (g * g) + 35 * g + 5) / 14)) := by grind
    rw [this, ← e5]; grind
  rw [hW] at e6
  have e7 : (5 / 14 + W) * (14 * (g * g) + 35 * g + 5) = 5 / 14 * (14 * (g * g) + 35 * g + 5) + W * (14 * (g * g) + 35 * g + 5) := by grind
  rw [e7, e6, hS]; grind
end FL
