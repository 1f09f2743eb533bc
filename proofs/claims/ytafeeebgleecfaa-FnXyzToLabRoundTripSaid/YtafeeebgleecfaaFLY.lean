/-
  Plain facts on IEEE double words, continued: a cube root's last step, and the whole.
-/
import Derived.Test.YtafeeebgleecfaaFLX
namespace FL
open Ieee
set_option linter.unusedVariables false
/-- the word cut to its upper digits, and one step up -/
theorem chop_ok (t : Nat) (ft : Finite t) (h1 : 1 / 50 ≤ val t) (h2 : val t ≤ 50000) : Finite (t - t % 2 ^ 30 + 2 ^ 30) ∧ val t ≤ val (t - t % 2 ^ 30 + 2 ^ 30) ∧ val (t - t % 2 ^ 30 + 2 ^ 30) ≤ val t * (1 + 1 / 4194304) ∧ t < 2 ^ 63 := by
  have l1 : p2 (-6) ≤ val t := by rw [show p2 (-6) = 1 / 64 by decide +kernel]; grind
  have l2 : val t < p2 16 := by rw [show p2 16 = 65536 by decide +kernel]; grind
  obtain ⟨k, f, hk, hf, k1, k2⟩ := bin_of t ft (-6) 16 (by decide) (by decide) l1 l2
  obtain ⟨f', hf'⟩ : ∃ f', f' = f - f % 2 ^ 30 + 2 ^ 30 := ⟨_, rfl⟩
  have e1 : t - t % 2 ^ 30 + 2 ^ 30 = k * 2 ^ 52 + f' := by rw [hk, hf']; omega
  have f1 : f ≤ f' := by omega
  have f2 : f' ≤ f + 2 ^ 30 := by omega
  have f3 : f' ≤ 2 ^ 52 := by omega
  have hv := (val_bin k f (by omega) (by omega) hf).2
  rw [← hk] at hv
  have hv2 : Finite (k * 2 ^ 52 + f') ∧ val (k * 2 ^ 52 + f') = ((2 ^ 52 + f' : Nat) : Rat) * p2 ((k : Int) - 1075) := by
    rcases Nat.lt_or_ge f' (2 ^ 52) with h | h
    · exact val_bin k f' (by omega) (by omega) h
    · have hh : f' = 2 ^ 52 := by omega
      have h3 := val_bin (k + 1) 0 (by omega) (by omega) (by decide)
      have e2 : (k + 1) * 2 ^ 52 + 0 = k * 2 ^ 52 + f' := by rw [hh]; omega
      rw [e2] at h3
      refine ⟨h3.1, ?_⟩
      rw [h3.2, hh]
      have e3 : ((k + 1 : Nat) : Int) - 1075 = ((k : Int) - 1075) + 1 := by omega
      rw [e3, p2_add, p2_one]
      have e4 : ((2 ^ 52 + 2 ^ 52 : Nat) : Rat) = 2 * ((2 ^ 52 + 0 : Nat) : Rat) := by decide +kernel
      rw [e4]; grind
  rw [e1]
  have hp := p2_pos ((k : Int) - 1075)
  have c1 : ((2 ^ 52 + f : Nat) : Rat) ≤ ((2 ^ 52 + f' : Nat) : Rat) := Rat.natCast_le_natCast.mpr (by omega)
  have c2 : ((2 ^ 52 + f' : Nat) : Rat) ≤ ((2 ^ 52 + f : Nat) : Rat) + ((2 ^ 30 : Nat) : Rat) := by rw [← Rat.natCast_add]; exact Rat.natCast_le_natCast.mpr (by omega)
  have c3 : ((2 ^ 52 : Nat) : Rat) ≤ ((2 ^ 52 + f : Nat) : Rat) := Rat.natCast_le_natCast.mpr (by omega)
  have e30 : ((2 ^ 30 : Nat) : Rat) = 1073741824 := by decide +kernel
  have e52 : ((2 ^ 52 : Nat) : Rat) = 4503599627370496 := by decide +kernel
  rw [e30] at c2
  rw [e52] at c3
  have d1 := Rat.mul_le_mul_of_nonneg_right c1 (Rat.le_of_lt hp)
  have d2 := Rat.mul_le_mul_of_nonneg_right c2 (Rat.le_of_lt hp)
  have d3 := Rat.mul_le_mul_of_nonneg_right c3 (Rat.le_of_lt hp)
  rw [← hv, ← hv2.2] at d1
  rw [← hv2.2] at d2
  rw [← hv] at d3
  have d4 : (((2 ^ 52 + f : Nat) : Rat) + 1073741824) * p2 ((k : Int) - 1075) = val t + 1073741824 * p2 ((k : Int) - 1075) := by rw [hv]; grind
  rw [d4] at d2
  exact ⟨hv2.1, d1, by grind, by omega⟩
theorem halley {q Y y T t X : Rat} (hT : 0 < T) (hX : q * (T * T * T) = X) (q1 : -(1 / 10000) ≤ q - 1) (q2 : q - 1 ≤ 1 / 10000) (hY : Y * (q + 2) = 2 * q + 1) (hy : y * T = t) (y1 : -(2 / 100000000000000) ≤ y - Y) (y2 : y - Y ≤ 2 / 100000000000000) :
    X * (1 - 1 / 100000000000) ≤ t * t * t ∧ t * t * t ≤ X * (1 + 1 / 100000000000) := by
  obtain ⟨d, hd⟩ : ∃ d, d = q - 1 := ⟨_, rfl⟩
  rw [← hd] at q1 q2
  have dd0 : 0 ≤ d * d := by
    rcases (by grind : 0 ≤ d ∨ d ≤ 0) with h | h
    · exact Rat.mul_nonneg h h
    · have := Rat.mul_nonneg (show 0 ≤ -d by grind) (show 0 ≤ -d by grind); grind
  have dd1 : d * d ≤ 1 / 100000000 := by
    rcases (by grind : 0 ≤ d ∨ d ≤ 0) with h | h
    · have := sq_le_sq h q2; grind
    · have := sq_le_sq (show 0 ≤ -d by grind) (show -d ≤ 1 / 10000 by grind); grind
  have c1 := Rat.mul_le_mul_of_nonneg_left q2 dd0
  have c2 := Rat.mul_le_mul_of_nonneg_left q1 dd0
  obtain ⟨D, hD⟩ : ∃ D, D = d * d * d := ⟨_, rfl⟩
  have D1 : -(1 / 1000000000000) ≤ D := by rw [hD]; grind
  have D2 : D ≤ 1 / 1000000000000 := by rw [hD]; grind
  have k1 := mul_le_abs (a := D) (b := q + 1) (M := 1 / 1000000000000) D1 D2 (by grind) (by grind)
  have key : (Y * Y * Y - q) * ((q + 2) * (q + 2) * (q + 2)) = -(D * (q + 1)) := by
    have e : (Y * Y * Y - q) * ((q + 2) * (q + 2) * (q + 2)) = (Y * (q + 2)) * (Y * (q + 2)) * (Y * (q + 2)) - q * ((q + 2) * (q + 2) * (q + 2)) := by grind
    rw [e, hY, hD, hd]; grind
  have hq3 : 1 ≤ (q + 2) * (q + 2) * (q + 2) := by have := cube_mono (show (0 : Rat) ≤ 1 by decide +kernel) (show 1 ≤ q + 2 by grind); grind
  obtain ⟨s1, s2⟩ := small_of key hq3 (M := 6 / 1000000000000) (by grind) (by grind)
  have Y1 : 9 / 10 ≤ Y := mul_le_cancel (show 0 < q + 2 by grind) (by rw [hY]; grind)
  have Y2 : Y ≤ 11 / 10 := mul_le_cancel (show 0 < q + 2 by grind) (by rw [hY]; grind)
  have YY := le_mul (show 0 ≤ Y by grind) (show 0 ≤ Y by grind) Y2 Y2
  have YY0 : 0 ≤ Y * Y := Rat.mul_nonneg (by grind) (by grind)
  have m1 := cube_mono (show 0 ≤ Y - 2 / 100000000000000 by grind) (show Y - 2 / 100000000000000 ≤ y by grind)
  have m2 := cube_mono (show 0 ≤ y by grind) (show y ≤ Y + 2 / 100000000000000 by grind)
  have n1 : q - 8 / 1000000000000 ≤ y * y * y := by grind
  have n2 : y * y * y ≤ q + 8 / 1000000000000 := by grind
  have hT3 : 0 < T * T * T := Rat.mul_pos (Rat.mul_pos hT hT) hT
  have r1 := Rat.mul_le_mul_of_nonneg_right (show q * (1 - 1 / 100000000000) ≤ y * y * y by grind) (Rat.le_of_lt hT3)
  have r2 := Rat.mul_le_mul_of_nonneg_right (show y * y * y ≤ q * (1 + 1 / 100000000000) by grind) (Rat.le_of_lt hT3)
  have e1 : t * t * t = y * y * y * (T * T * T) := by rw [← hy]; grind
  have e2 : q * (1 - 1 / 100000000000) * (T * T * T) = X * (1 - 1 / 100000000000) := by rw [← hX]; grind
  have e3 : q * (1 + 1 / 100000000000) * (T * T * T) = X * (1 + 1 / 100000000000) := by rw [← hX]; grind
  rw [e1, ← e2, ← e3]
  exact ⟨r1, r2⟩
theorem mul_tiny {v d B : Rat} (hB : 0 ≤ B) (v1 : -1 ≤ v) (v2 : v ≤ 1) (d1 : -B ≤ d) (d2 : d ≤ B) : -B ≤ v * d ∧ v * d ≤ B := by
  rcases (by grind : 0 ≤ d ∨ d ≤ 0) with h | h
  · have a1 := Rat.mul_le_mul_of_nonneg_right v1 h
    have a2 := Rat.mul_le_mul_of_nonneg_right v2 h
    exact ⟨by grind, by grind⟩
  · have a1 := Rat.mul_le_mul_of_nonneg_right v1 (show 0 ≤ -d by grind)
    have a2 := Rat.mul_le_mul_of_nonneg_right v2 (show 0 ≤ -d by grind)
    exact ⟨by grind, by grind⟩
set_option maxHeartbeats 1000000 in
theorem cbrt_last (x t2 : Nat) (fx : Finite x) (ft : Finite t2) (h1 : 1 / 50 ≤ val t2) (h2 : val t2 ≤ 60000) (c1 : val x * (1 - 5 / 100000) ≤ val t2 * val t2 * val t2) (c2 : val t2 * val t2 * val t2 ≤ val x * (1 + 5 / 100000)) :
    ∃ s r w n dd r2 p t, double.mul t2 t2 = some s ∧ double.div x s = some r ∧ double.add t2 t2 = some w ∧ double.sub r t2 = some n ∧ double.add w r = some dd ∧ double.div n dd = some r2 ∧ double.mul t2 r2 = some p ∧ double.add t2 p = some t ∧ Finite t ∧ 1 / 60 ≤ val t ∧
      val x * (1 - 1 / 100000000000) ≤ val t * val t * val t ∧ val t * val t * val t ≤ val x * (1 + 1 / 100000000000) := by
  obtain ⟨ps1, ps2⟩ := p2_small
  obtain ⟨b22, b23⟩ := big1022
  have hu : u = 1 / 9007199254740992 := rfl
  have he := eta_nano
  have he0 := eta_pos
  obtain ⟨T, hT⟩ : ∃ T, T = val t2 := ⟨_, rfl⟩
  obtain ⟨X, hX⟩ : ∃ X, X = val x := ⟨_, rfl⟩
  rw [← hT] at h1 h2 c1 c2
  rw [← hX] at c1 c2
  have hTp : 0 < T := by grind
  have TT1 := le_mul (show (0 : Rat) ≤ 1 / 50 by decide +kernel) (show (0 : Rat) ≤ 1 / 50 by decide +kernel) h1 h1
  have TT2 := le_mul (show 0 ≤ T by grind) (show 0 ≤ T by grind) h2 h2
  have T3 : 0 < T * T * T := Rat.mul_pos (Rat.mul_pos hTp hTp) hTp
  obtain ⟨q, hq⟩ : ∃ q, q * (T * T * T) = X := ⟨X / (T * T * T), Rat.div_mul_cancel (by grind)⟩
  have q1 : -(1 / 10000) ≤ q - 1 := by
    have : 1 - 1 / 10000 ≤ q := mul_le_cancel T3 (by rw [hq]; grind)
    grind
  have q2 : q - 1 ≤ 1 / 10000 := by
    have : q ≤ 1 + 1 / 10000 := mul_le_cancel T3 (by rw [hq]; grind)
    grind
  obtain ⟨s, e1, f1, u1, v1⟩ := mul_rel t2 t2 ft ft (by rw [← hT]; grind) (by rw [← hT]; grind)
  rw [← hT] at u1 v1
  have hs : 0 < val s := by grind
  obtain ⟨V, hV⟩ : ∃ V, V * val s = X := ⟨X / val s, Rat.div_mul_cancel (by grind)⟩
  have hqT : 0 ≤ q * T := Rat.mul_nonneg (by grind) (by grind)
  have hQ : q * T * (T * T) = X := by rw [← hq]; grind
  have V1 : q * T * (1 - 2 / 4000000000000000) ≤ V := mul_le_cancel hs (by
    rw [hV, ← hQ]
    have k := Rat.mul_le_mul_of_nonneg_left v1 (Rat.mul_nonneg hqT (show (0 : Rat) ≤ 1 - 2 / 4000000000000000 by decide +kernel))
    have k2 : 0 ≤ q * T * (T * T) := Rat.mul_nonneg hqT (by grind)
    grind)
  have V2 : V ≤ q * T * (1 + 2 / 4000000000000000) := mul_le_cancel hs (by
    rw [hV, ← hQ]
    have k := Rat.mul_le_mul_of_nonneg_left u1 (Rat.mul_nonneg hqT (show (0 : Rat) ≤ 1 + 2 / 4000000000000000 by decide +kernel))
    have k2 : 0 ≤ q * T * (T * T) := Rat.mul_nonneg hqT (by grind)
    grind)
  have qT1 : 9 / 10 * T ≤ q * T := Rat.mul_le_mul_of_nonneg_right (by grind) (by grind)
  have qT2 : q * T ≤ 11 / 10 * T := Rat.mul_le_mul_of_nonneg_right (by grind) (by grind)
  obtain ⟨r, e2, f2, u2, v2⟩ := div_rel x s fx f1 (by grind) V (by rw [← hX]; exact hV) (by grind) (by grind)
  have r1 : -(2 / 1000000000000000 * T) ≤ val r - q * T := by grind
  have r2 : val r - q * T ≤ 2 / 1000000000000000 * T := by grind
  clear u1 v1 V1 V2 u2 v2 TT1 TT2 hV hQ c1 c2
  obtain ⟨w, e3, f3, k3⟩ := add_ok t2 t2 ft ft (by rw [← hT]; grind) (by rw [← hT]; grind)
  rw [← hT] at k3
  have w1 := k3 (2 * T) (by grind) (by grind)
  rw [hu] at w1
  clear k3
  obtain ⟨n, e4, f4, k4⟩ := sub_ok r t2 f2 ft (by rw [← hT]; grind) (by rw [← hT]; grind)
  rw [← hT] at k4
  have n1 := k4 T (by grind) (by grind)
  rw [hu] at n1
  clear k4
  obtain ⟨dd, e5, f5, k5⟩ := add_ok w r f3 f2 (by grind) (by grind)
  have d1 := k5 (4 * T) (by grind) (by grind)
  rw [hu] at d1
  clear k5
  obtain ⟨n', hn'⟩ : ∃ n', n' * T = val n := ⟨val n / T, Rat.div_mul_cancel (by grind)⟩
  obtain ⟨d', hd'⟩ : ∃ d', d' * T = val dd := ⟨val dd / T, Rat.div_mul_cancel (by grind)⟩
  have n2 : -(3 / 1000000000000000) ≤ n' - (q - 1) := by
    have : q - 1 - 3 / 1000000000000000 ≤ n' := mul_le_cancel hTp (by rw [hn']; grind)
    grind
  have n3 : n' - (q - 1) ≤ 3 / 1000000000000000 := by
    have : n' ≤ q - 1 + 3 / 1000000000000000 := mul_le_cancel hTp (by rw [hn']; grind)
    grind
  have d2 : -(4 / 1000000000000000) ≤ d' - (q + 2) := by
    have : q + 2 - 4 / 1000000000000000 ≤ d' := mul_le_cancel hTp (by rw [hd']; grind)
    grind
  have d3 : d' - (q + 2) ≤ 4 / 1000000000000000 := by
    have : d' ≤ q + 2 + 4 / 1000000000000000 := mul_le_cancel hTp (by rw [hd']; grind)
    grind
  obtain ⟨v, hv⟩ : ∃ v, v * d' = n' := ⟨n' / d', Rat.div_mul_cancel (by grind)⟩
  have hvw : v * val dd = val n := by rw [← hn', ← hd', ← hv]; grind
  obtain ⟨v1, v2⟩ := small_of hv (show 1 ≤ d' by grind) (M := 1 / 1000) (by grind) (by grind)
  have hdd0 : val dd ≠ 0 := by
    intro h
    have hdp : 0 < val dd := by grind
    grind
  obtain ⟨z, hz⟩ : ∃ z, z * (q + 2) = q - 1 := ⟨(q - 1) / (q + 2), Rat.div_mul_cancel (by grind)⟩
  have kv := mul_tiny (B := 4 / 1000000000000000) (by decide +kernel) (show -1 ≤ v by grind) (show v ≤ 1 by grind) (show -(4 / 1000000000000000) ≤ q + 2 - d' by grind) (show q + 2 - d' ≤ 4 / 1000000000000000 by grind)
  have ez : (v - z) * (q + 2) = v * (q + 2 - d') + (n' - (q - 1)) := by grind
  obtain ⟨vz1, vz2⟩ := small_of ez (show 1 ≤ q + 2 by grind) (M := 7 / 1000000000000000) (by grind) (by grind)
  obtain ⟨r3, e6, f6, k6⟩ := div_ok n dd f4 f5 hdd0 v hvw (by grind) (by grind)
  have r4 := k6 1 (by grind) (by grind)
  rw [hu] at r4
  clear k6
  have r5 : -(1 / 100) ≤ val r3 := by grind
  have r6 : val r3 ≤ 1 / 100 := by grind
  have tr1 := Rat.mul_le_mul_of_nonneg_left r5 (show 0 ≤ T by grind)
  have tr2 := Rat.mul_le_mul_of_nonneg_left r6 (show 0 ≤ T by grind)
  obtain ⟨p, e7, f7, k7⟩ := mul_ok t2 r3 ft f6 (by rw [← hT]; grind) (by rw [← hT]; grind)
  rw [← hT] at k7
  have p1 := k7 T (by grind) (by grind)
  rw [hu] at p1
  clear k7
  obtain ⟨t, e8, f8, k8⟩ := add_ok t2 p ft f7 (by rw [← hT]; grind) (by rw [← hT]; grind)
  rw [← hT] at k8
  have t1 := k8 (2 * T) (by grind) (by grind)
  rw [hu] at t1
  clear k8
  refine ⟨s, r, w, n, dd, r3, p, t, e1, e2, e3, e4, e5, e6, e7, e8, f8, by grind, ?_⟩
  obtain ⟨y, hy⟩ : ∃ y, y * T = val t := ⟨val t / T, Rat.div_mul_cancel (by grind)⟩
  obtain ⟨Y, hYd⟩ : ∃ Y, Y = 1 + z := ⟨_, rfl⟩
  have hY : Y * (q + 2) = 2 * q + 1 := by rw [hYd]; grind
  have y1 : -(2 / 100000000000000) ≤ y - Y := by
    have k1 := Rat.mul_le_mul_of_nonneg_left (show z - 9 / 1000000000000000 ≤ val r3 by grind) (show 0 ≤ T by grind)
    have : Y - 2 / 100000000000000 ≤ y := mul_le_cancel hTp (by rw [hy, hYd]; grind)
    grind
  have y2 : y - Y ≤ 2 / 100000000000000 := by
    have k1 := Rat.mul_le_mul_of_nonneg_left (show val r3 ≤ z + 9 / 1000000000000000 by grind) (show 0 ≤ T by grind)
    have : y ≤ Y + 2 / 100000000000000 := mul_le_cancel hTp (by rw [hy, hYd]; grind)
    grind
  rw [← hX]
  exact halley hTp hq q1 q2 hY hy y1 y2
/-- the words that the cube root goes through -/
def CbrtW (x t : Nat) : Prop :=
  ∃ r0 r1 m s a d e q h t1 s2 r2 w n dd r3 p, double.mul (x / 3 + 3071306043645493248) (x / 3 + 3071306043645493248) = some r0 ∧ double.div r0 x = some r1 ∧ double.mul r1 (x / 3 + 3071306043645493248) = some m ∧ double.add 4603064841997850097 m = some s ∧ double.add s 4609048195788499471 = some a ∧ double.div 13827900089180538932 s = some d ∧ double.add a d = some e ∧
    double.div 4609916747145206638 e = some q ∧ double.add 4600105333671292343 q = some h ∧ double.mul (x / 3 + 3071306043645493248) h = some t1 ∧ t1 < 2 ^ 63 ∧
    double.mul (t1 - t1 % 2 ^ 30 + 2 ^ 30) (t1 - t1 % 2 ^ 30 + 2 ^ 30) = some s2 ∧ double.div x s2 = some r2 ∧ double.add (t1 - t1 % 2 ^ 30 + 2 ^ 30) (t1 - t1 % 2 ^ 30 + 2 ^ 30) = some w ∧ double.sub r2 (t1 - t1 % 2 ^ 30 + 2 ^ 30) = some n ∧ double.add w r2 = some dd ∧ double.div n dd = some r3 ∧ double.mul (t1 - t1 % 2 ^ 30 + 2 ^ 30) r3 = some p ∧ double.add (t1 - t1 % 2 ^ 30 + 2 ^ 30) p = some t
theorem cbrt_ok (x : Nat) (fx : Finite x) (h1 : p2 (-9) ≤ val x) (h2 : val x < p2 40) :
    ∃ t, CbrtW x t ∧ Finite t ∧ 1 / 60 ≤ val t ∧ val x * (1 - 1 / 100000000000) ≤ val t * val t * val t ∧ val t * val t * val t ≤ val x * (1 + 1 / 100000000000) := by
  obtain ⟨k, tau, xi, k1, k2, f0, v0, vx, a1, a2, b1, b2, g1, g2⟩ := cbrt_start x fx h1 h2
  obtain ⟨r0, r1, m, s, a, d, e, q, h, t1, e0, e1, e2, e3, e4, e5, e6, e7, e8, e9, f1, l1, l2, c1, c2⟩ := cbrt_mid x _ fx f0 k tau xi k1 k2 v0 vx a1 a2 b1 b2 g1 g2
  obtain ⟨f2, u1, u2, lt⟩ := chop_ok t1 f1 l1 l2
  obtain ⟨t2, ht2⟩ : ∃ t2, t2 = t1 - t1 % 2 ^ 30 + 2 ^ 30 := ⟨_, rfl⟩
  have hXp : 0 < val x := by have := p2_pos (-9); grind
  rw [← ht2] at f2 u1 u2
  have m1 := cube_mono (show 0 ≤ val t1 by grind) u1
  have m2 := cube_mono (show 0 ≤ val t2 by grind) u2
  have m3 : val t1 * (1 + 1 / 4194304) * (val t1 * (1 + 1 / 4194304)) * (val t1 * (1 + 1 / 4194304)) = val t1 * val t1 * val t1 * ((1 + 1 / 4194304) * (1 + 1 / 4194304) * (1 + 1 / 4194304)) := by grind
  rw [m3] at m2
  obtain ⟨s2, r2, w, n, dd, r3, p, t, j1, j2, j3, j4, j5, j6, j7, j8, ff, l3, z1, z2⟩ := cbrt_last x t2 fx f2 (by grind) (by grind) (by grind) (by grind)
  rw [ht2] at j1 j3 j4 j7 j8
  exact ⟨t, ⟨r0, r1, m, s, a, d, e, q, h, t1, s2, r2, w, n, dd, r3, p, e0, e1, e2, e3, e4, e5, e6, e7, e8, e9, lt, j1, j2, j3, j4, j5, j6, j7, j8⟩, ff, l3, z1, z2⟩
end FL
