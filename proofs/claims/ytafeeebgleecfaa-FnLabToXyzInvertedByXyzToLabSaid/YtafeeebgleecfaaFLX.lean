/-
  Plain facts on IEEE double words, continued: a cube root, its first step rounded, its last step.
-/
import Derived.Test.YtafeeebgleecfaaFLW
namespace FL
open Ieee
set_option linter.unusedVariables false
theorem p2_small : p2 (-100) ≤ 1 / 100000000000000000000 ∧ 100000000000000000000 ≤ p2 100 := by constructor <;> decide +kernel
theorem mul_pos' {a b : Rat} (ha : 0 < a) (hb : 0 < b) : 0 < a * b := Rat.mul_pos ha hb
theorem le_mul {a b c d : Rat} (ha : 0 ≤ a) (hc : 0 ≤ c) (h1 : a ≤ b) (h2 : c ≤ d) : a * c ≤ b * d := by
  have q1 := Rat.mul_le_mul_of_nonneg_right h1 hc
  have q2 := Rat.mul_le_mul_of_nonneg_left h2 (show 0 ≤ b by grind)
  grind
theorem rel_mul {a b e : Rat} (c : Rat) (hc : 0 ≤ c) (h1 : a * (1 - e) ≤ b) (h2 : b ≤ a * (1 + e)) : a * c * (1 - e) ≤ b * c ∧ b * c ≤ a * c * (1 + e) := by
  have q1 := Rat.mul_le_mul_of_nonneg_right h1 hc
  have q2 := Rat.mul_le_mul_of_nonneg_right h2 hc
  exact ⟨by grind, by grind⟩
theorem rel_add {a b c : Rat} (ha : 0 ≤ a) (e f s : Rat) (he : 0 ≤ e) (hf : 0 ≤ f) (hf1 : f ≤ 1) (h1 : a * (1 - e) ≤ b) (h2 : b ≤ a * (1 + e)) (h3 : b * (1 - f) ≤ c) (h4 : c ≤ b * (1 + f)) (hs : e + f + e * f ≤ s) : a * (1 - s) ≤ c ∧ c ≤ a * (1 + s) := by
  have q1 := Rat.mul_le_mul_of_nonneg_right h1 (show 0 ≤ 1 - f by grind)
  have q2 := Rat.mul_le_mul_of_nonneg_right h2 (show 0 ≤ 1 + f by grind)
  have q3 := Rat.mul_le_mul_of_nonneg_left hs ha
  have q4 := Rat.mul_nonneg ha (Rat.mul_nonneg he hf)
  exact ⟨by grind, by grind⟩
set_option maxHeartbeats 1000000 in
theorem cbrt_mid (x t0 : Nat) (fx : Finite x) (ft : Finite t0) (k : Int) (tau xi : Rat) (hk1 : -5 ≤ k) (hk2 : k ≤ 14) (vt : val t0 = tau * p2 k) (vx : val x = xi * (p2 k * p2 k * p2 k)) (a1 : 96 / 100 ≤ tau) (a2 : tau ≤ 2) (b1 : 1 ≤ xi) (b2 : xi ≤ 8) (g1 : 5 / 6 * xi ≤ tau * tau * tau) (g2 : tau * tau * tau ≤ 7 / 6 * xi) :
    ∃ r0 r1 m s a d e q h t1, double.mul t0 t0 = some r0 ∧ double.div r0 x = some r1 ∧ double.mul r1 t0 = some m ∧ double.add 4603064841997850097 m = some s ∧ double.add s 4609048195788499471 = some a ∧ double.div 13827900089180538932 s = some d ∧ double.add a d = some e ∧
      double.div 4609916747145206638 e = some q ∧ double.add 4600105333671292343 q = some h ∧ double.mul t0 h = some t1 ∧ Finite t1 ∧ 1 / 50 ≤ val t1 ∧ val t1 ≤ 50000 ∧ val x * (1 - 2 / 100000) ≤ val t1 * val t1 * val t1 ∧ val t1 * val t1 * val t1 ≤ val x * (1 + 2 / 100000) := by
  obtain ⟨ps1, ps2⟩ := p2_small
  obtain ⟨fC, C1, C2⟩ := cC
  obtain ⟨fD, D1, D2⟩ := cD
  obtain ⟨fE, E1, E2⟩ := cE
  obtain ⟨fF, F1, F2⟩ := cF
  obtain ⟨fG, G1, G2⟩ := cG
  have P1 : 1 / 32 ≤ p2 k := by have := p2_le hk1; rw [show p2 (-5) = 1 / 32 by decide +kernel] at this; exact this
  have P2 : p2 k ≤ 16384 := by have := p2_le hk2; rw [show p2 14 = 16384 by decide +kernel] at this; exact this
  have hT1 : 3 / 100 ≤ val t0 := by rw [vt]; have := le_mul (show (0 : Rat) ≤ 96 / 100 by decide +kernel) (show (0 : Rat) ≤ 1 / 32 by decide +kernel) a1 P1; grind
  have hT2 : val t0 ≤ 32768 := by rw [vt]; have := le_mul (show 0 ≤ tau by grind) (show 0 ≤ p2 k by grind) a2 P2; grind
  have P3 : 0 < p2 k * p2 k * p2 k := mul_pos' (mul_pos' (by grind) (by grind)) (by grind)
  have hXp : 0 < val x := by rw [vx]; exact mul_pos' (by grind) P3
  obtain ⟨g, hg⟩ : ∃ g, g * xi = tau * tau * tau := ⟨tau * tau * tau / xi, Rat.div_mul_cancel (by grind)⟩
  have gg1 : 5 / 6 ≤ g := mul_le_cancel (show 0 < xi by grind) (by rw [hg]; exact g1)
  have gg2 : g ≤ 7 / 6 := mul_le_cancel (show 0 < xi by grind) (by rw [hg]; exact g2)
  have hTX : val t0 * val t0 * val t0 = g * val x := by rw [vt, vx]; grind
  clear vt vx hg g1 g2 a1 a2 b1 b2 P1 P2 P3
  obtain ⟨T, hT⟩ : ∃ T, T = val t0 := ⟨_, rfl⟩
  obtain ⟨X, hX⟩ : ∃ X, X = val x := ⟨_, rfl⟩
  rw [← hT] at hT1 hT2 hTX
  rw [← hX] at hXp hTX
  have TT1 := le_mul (show (0 : Rat) ≤ 3 / 100 by decide +kernel) (show (0 : Rat) ≤ 3 / 100 by decide +kernel) hT1 hT1
  have TT2 := le_mul (show 0 ≤ T by grind) (show 0 ≤ T by grind) hT2 hT2
  -- the three first operations
  obtain ⟨r0, e0, f0, u0, v0⟩ := mul_rel t0 t0 ft ft (by rw [← hT]; grind) (by rw [← hT]; grind)
  rw [← hT] at u0 v0
  obtain ⟨G, hG⟩ : ∃ G, G * X = T * T := ⟨T * T / X, Rat.div_mul_cancel (by grind)⟩
  have hGT : G * T = g := by
    have q1 : G * T * X = g * X := by rw [← hTX]; grind
    have q2 : (G * T - g) * X = 0 := by grind
    rcases Rat.mul_eq_zero.1 q2 with h | h
    · grind
    · exfalso; grind
  obtain ⟨V1, hV1⟩ : ∃ V, V * val x = val r0 := ⟨val r0 / val x, Rat.div_mul_cancel (by rw [← hX]; grind)⟩
  rw [← hX] at hV1
  have V1a : G * (1 - 1 / 4000000000000000) ≤ V1 := mul_le_cancel hXp (by
    rw [hV1]
    have : G * (1 - 1 / 4000000000000000) * X = G * X * (1 - 1 / 4000000000000000) := by grind
    rw [this, hG]; exact u0)
  have V1b : V1 ≤ G * (1 + 1 / 4000000000000000) := mul_le_cancel hXp (by
    rw [hV1]
    have : G * (1 + 1 / 4000000000000000) * X = G * X * (1 + 1 / 4000000000000000) := by grind
    rw [this, hG]; exact v0)
  have hG1 : 1 / 100000 ≤ G := mul_le_cancel (show 0 < T by grind) (by rw [hGT]; grind)
  have hG2 : G ≤ 100 := mul_le_cancel (show 0 < T by grind) (by rw [hGT]; grind)
  obtain ⟨r1, e1, f1, u1, v1⟩ := div_rel r0 x f0 fx (by rw [← hX]; grind) V1 (by rw [← hX]; exact hV1) (by grind) (by grind)
  obtain ⟨R1a, R1b⟩ := rel_add (show 0 ≤ G by grind) (1 / 4000000000000000) (1 / 4000000000000000) (3 / 4000000000000000) (by decide +kernel) (by decide +kernel) (by decide +kernel) V1a V1b u1 v1 (by decide +kernel)
  obtain ⟨M1a, M1b⟩ := rel_mul T (by grind) R1a R1b
  rw [hGT] at M1a M1b
  obtain ⟨m, e2, f2, u2, v2⟩ := mul_rel r1 t0 f1 ft (by rw [← hT]; grind) (by rw [← hT]; grind)
  rw [← hT] at u2 v2
  have m1 : -(4 / 1000000000000000) ≤ val m - g := by grind
  have m2 : val m - g ≤ 4 / 1000000000000000 := by grind
  clear u0 v0 u1 v1 u2 v2 M1a M1b R1a R1b V1a V1b hG1 hG2 hGT hG TT1 TT2 hV1
  obtain ⟨s, e3, f3, s1, s2⟩ := add_abs _ m fC f2 (by grind) (by grind)
  obtain ⟨a, e4, f4, a1, a2⟩ := add_abs s _ f3 fE (by grind) (by grind)
  have hs0 : 1 ≤ val s := by grind
  obtain ⟨v, hv⟩ : ∃ v, v * val s = val 13827900089180538932 := ⟨_, Rat.div_mul_cancel (by grind)⟩
  obtain ⟨v1, -⟩ := small_of hv hs0 (M := 1) (by grind) (by grind)
  have v2 : v ≤ 0 := mul_le_cancel (show 0 < val s by grind) (by rw [hv]; grind)
  obtain ⟨d, e5, f5, d1, d2⟩ := div_abs _ s fD f3 (by grind) v hv (by grind) (by grind)
  obtain ⟨e, e6, f6, k1, k2⟩ := add_abs a d f4 f5 (by grind) (by grind)
  have he0 : 165 / 100 ≤ val e := by grind
  obtain ⟨w, hw⟩ : ∃ w, w * val e = val 4609916747145206638 := ⟨_, Rat.div_mul_cancel (by grind)⟩
  have w1 : 0 ≤ w := mul_le_cancel (show 0 < val e by grind) (by rw [hw]; grind)
  have w2 : w ≤ 1 := mul_le_cancel (show 0 < val e by grind) (by rw [hw]; grind)
  obtain ⟨q, e7, f7, q1, q2⟩ := div_abs _ e fF f6 (by grind) w hw (by grind) (by grind)
  obtain ⟨h, e8, f8, h1, h2⟩ := add_abs _ q fG f7 (by grind) (by grind)
  obtain ⟨H, hH, hH1, hH2⟩ := pade_near gg1 gg2 m1 m2 C1 C2 s1 s2 E1 E2 a1 a2 D1 D2 hv v1 (by grind) d1 d2 k1 k2 F1 F2 hw (by grind) w2 q1 q2 G1 G2 h1 h2
  obtain ⟨z1, z2, z3, z4⟩ := pade gg1 gg2 hH
  clear m1 m2 C1 C2 s1 s2 E1 E2 a1 a2 D1 D2 hv v1 v2 d1 d2 k1 k2 F1 F2 hw w1 w2 q1 q2 G1 G2 h1 h2 hH hs0 he0
  have th1 := le_mul (show (0 : Rat) ≤ 3 / 100 by decide +kernel) (show (0 : Rat) ≤ 75 / 100 by decide +kernel) hT1 (show 75 / 100 ≤ val h by grind)
  have th2 := le_mul (show 0 ≤ T by grind) (show 0 ≤ val h by grind) hT2 (show val h ≤ 14 / 10 by grind)
  obtain ⟨t1, e9, f9, u9, v9⟩ := mul_rel t0 h ft f8 (by rw [← hT]; grind) (by rw [← hT]; grind)
  rw [← hT] at u9 v9
  refine ⟨r0, r1, m, s, a, d, e, q, h, t1, e0, e1, e2, e3, e4, e5, e6, e7, e8, e9, f9, by grind, by grind, ?_⟩
  -- y = t1 / T
  obtain ⟨y, hy⟩ : ∃ y, y * T = val t1 := ⟨val t1 / T, Rat.div_mul_cancel (by grind)⟩
  have y1 : val h * (1 - 1 / 4000000000000000) ≤ y := mul_le_cancel (show 0 < T by grind) (by rw [hy]; grind)
  have y2 : y ≤ val h * (1 + 1 / 4000000000000000) := mul_le_cancel (show 0 < T by grind) (by rw [hy]; grind)
  have yH1 : H - 2 / 1000000000000 ≤ y := by grind
  have yH2 : y ≤ H + 2 / 1000000000000 := by grind
  have hcube : val t1 * val t1 * val t1 = g * (y * y * y) * X := by
    have : g * (y * y * y) * X = y * y * y * (g * X) := by grind
    rw [this, ← hTX, ← hy]; grind
  have c1 := cube_mono (show 0 ≤ H - 2 / 1000000000000 by grind) yH1
  have c2 := cube_mono (show 0 ≤ y by grind) yH2
  have hHH := le_mul (show 0 ≤ H by grind) (show 0 ≤ H by grind) z4 z4
  have hHH0 : 0 ≤ H * H := Rat.mul_nonneg (by grind) (by grind)
  have k1 : H * H * H - 1 / 10000000000 ≤ y * y * y := by grind
  have k2 : y * y * y ≤ H * H * H + 1 / 10000000000 := by grind
  have j1 := Rat.mul_le_mul_of_nonneg_left k1 (show 0 ≤ g by grind)
  have j2 := Rat.mul_le_mul_of_nonneg_left k2 (show 0 ≤ g by grind)
  have i1 : 1 - 2 / 100000 ≤ g * (y * y * y) := by grind
  have i2 : g * (y * y * y) ≤ 1 + 2 / 100000 := by grind
  have n1 := Rat.mul_le_mul_of_nonneg_right i1 (show 0 ≤ X by grind)
  have n2 := Rat.mul_le_mul_of_nonneg_right i2 (show 0 ≤ X by grind)
  rw [hcube, ← hX]
  exact ⟨by grind, by grind⟩
end FL
