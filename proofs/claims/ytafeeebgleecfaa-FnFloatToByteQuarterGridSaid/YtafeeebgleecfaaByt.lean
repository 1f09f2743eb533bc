/-
  math.Round, floatToByte and a clamp by their contracts; the plain law of the quarter grid.
-/
import Derived.Test.YtafeeebgleecfaaRows
import Derived.WalkKit
import Derived.ProofKit
import Derived.OpenShut
import Derived.Below
import Derived.Lib.Hide
import Derived.Outline
import Derived.Laws.Cover2
import Derived.Laws.FloatArith
import Derived.Laws.Externs
import Derived.Test.YtafeeebgleecfaaFLJ
namespace FL
open Ieee Go
theorem c1020 : Finite 4652183230701633536 ∧ val 4652183230701633536 = 1020 := by constructor <;> decide +kernel
theorem c255 : Finite 4643176031446892544 ∧ val 4643176031446892544 = 255 := by constructor <;> decide +kernel
theorem ofInt_ok (n : Int) (h : n.natAbs < 2 ^ 53) : Finite (floatOfInt .f64 n) ∧ val (floatOfInt .f64 n) = n := by
  have e : floatOfInt .f64 n = double.nearest (decide (n < 0)) n.natAbs 0 := rfl
  obtain ⟨h1, h2⟩ := exact_nat (decide (n < 0)) n.natAbs h
  rw [e]
  refine ⟨h1, ?_⟩
  rw [h2]
  have := natAbs_val n false
  by_cases h0 : n = 0
  · subst h0; decide +kernel
  · rw [if_neg h0] at this; exact this
theorem p2_1022_big : (4611686018427387904 : Rat) < p2 1022 := by
  have h1 : p2 62 = 4611686018427387904 := by decide +kernel
  have h2 : p2 1022 = p2 62 * p2 960 := by rw [← p2_add]; rfl
  have h3 : p2 1 ≤ p2 960 := p2_le (by decide)
  rw [p2_one] at h3
  rw [h2, h1]
  grind
theorem p2_1023_big : (4611686018427387904 : Rat) < p2 1023 := by
  have h := p2_1022_big
  have := p2_le (show (1022 : Int) ≤ 1023 by decide)
  grind
theorem eta_small : eta ≤ 1 / 1000000 := by
  have h : p2 (-1075) ≤ p2 (-20) := p2_le (by decide)
  have e : p2 (-20) = 1 / 1048576 := by decide +kernel
  unfold eta
  rw [e] at h
  grind
theorem core29 (n : Int) (h1 : -2147483648 ≤ n) (h2 : n ≤ 2147483647) : ∃ r p m, double.div (floatOfInt .f64 n) 4652183230701633536 = some r ∧ double.mul r 4643176031446892544 = some p ∧ Finite p ∧ floatToIntVal .f64 (roundW p) .i64 = some m ∧ 4 * m - 2 ≤ n ∧ n ≤ 4 * m + 2 := by
  obtain ⟨fx, vx⟩ := ofInt_ok n (by omega)
  obtain ⟨fc, vc⟩ := c1020
  obtain ⟨fd, vd⟩ := c255
  have q1 : (-2147483648 : Rat) ≤ (n : Rat) := by
    have h := Rat.intCast_le_intCast.2 h1
    rwa [show ((-2147483648 : Int) : Rat) = -2147483648 by decide +kernel] at h
  have q2 : (n : Rat) ≤ (2147483647 : Rat) := by
    have h := Rat.intCast_le_intCast.2 h2
    rwa [show ((2147483647 : Int) : Rat) = 2147483647 by decide +kernel] at h
  have hb := p2_1022_big
  have hb3 := p2_1023_big
  have he := eta_small
  have he0 := eta_pos
  obtain ⟨r, hr, fr, br⟩ := div_ok (floatOfInt .f64 n) 4652183230701633536 fx fc (by rw [vc]; decide +kernel) ((n : Rat) / 1020) (by rw [vc, vx]; grind) (by grind) (by grind)
  have b1 := br 2147484 (by grind) (by grind)
  have hu : u = 1 / 9007199254740992 := rfl
  rw [hu] at b1
  obtain ⟨p, hp, fp, bp⟩ := mul_ok r 4643176031446892544 fr fd (by rw [vd]; grind) (by rw [vd]; grind)
  rw [vd] at bp
  have b2 := bp 600000000 (by grind) (by grind)
  rw [hu] at b2
  have hmag := mag_bounds p fp.1
  have hex : p % 2 ^ 63 / 2 ^ 52 < 1075 := by
    refine exp_small p 1075 fp (by decide) ?_
    have e52 : p2 (((1075 : Nat) : Int) - 1023) = 4503599627370496 := by decide +kernel
    rw [e52]
    rcases hmag.2.2.2 with e | e <;> rw [e] <;> grind
  obtain ⟨fR, m, hm, m1, m2⟩ := round_ok p fp hex
  have t1 : (4 : Rat) * (m : Rat) < (n : Rat) + 3 := by grind
  have t2 : (n : Rat) < 4 * (m : Rat) + 3 := by grind
  have t1' : 4 * m < n + 3 := by exact_mod_cast t1
  have t2' : n < 4 * m + 3 := by exact_mod_cast t2
  exact ⟨r, p, m, hr, hp, fp, toInt_whole _ fR m hm (by omega) (by omega), by omega, by omega⟩
end FL
namespace Go.Proofs.Ytafeeebgleecfaa.Byt
open Go.ChangeShapes Go.WideShapes Go.ChangeAt Go.RowKit
open FL
set_option linter.unusedVariables false
theorem run_bits (x : Nat) (w : World) : (callFunc 85 #[.float .f64 x]).run Try.prog w = .ok (.value (.int .u64 x)) w := by
  rw [run_callFunc_extern (e := Extern.MathFloatBits.float64bits) Try.func85 (by decide +kernel) rfl (by kernel_rfl) (by kernel_rfl)]; rfl
theorem run_unbits (x : Int) (w : World) : (callFunc 83 #[.int .u64 x]).run Try.prog w = .ok (.value (.float .f64 x.toNat)) w := by
  rw [run_callFunc_extern (e := Extern.MathFloatBits.float64frombits) Try.func83 (by decide +kernel) rfl (by kernel_rfl) (by kernel_rfl)]; rfl
theorem run_unbits' (x : Nat) (w : World) : (callFunc 83 #[.int .u64 (x : Int)]).run Try.prog w = .ok (.value (.float .f64 x)) w := run_unbits x w
theorem or_comm (a b : Int) : bits .or .u64 a b = bits .or .u64 b a := by
  simp [bits, Nat.or_comm]
set_option maxRecDepth 100000 in
set_option maxHeartbeats 1000000 in
theorem Round_any (x : Nat) (w : World) (h : Finite x) : Calls Try.prog 77 #[.float .f64 x] w fun e w' => e = .returned (.float .f64 (roundW x)) ∧ w = w' := by
  have hx := h.1
  have b1 := run_bits x
  have b2 := bits_exp x hx
  have b3 := bits_sign x hx
  obtain ⟨k, hk⟩ : ∃ k, k = x % 2 ^ 63 / 2 ^ 52 := ⟨_, rfl⟩
  have hk2 : k < 2047 := by have := h.2; omega
  rw [← hk] at b2
  by_cases h1 : k < 1023
  · by_cases h2 : k = 1022
    · have e : roundW x = x - x % 2 ^ 63 + 1023 * 2 ^ 52 := by unfold roundW; rw [← hk, if_pos h1, if_pos h2]
      have b4 := run_unbits' (roundW x)
      have b5 := FL.bits_join (1023 * 2 ^ 52) x (by decide) hx
      rw [or_comm, Nat.add_comm, ← e] at b5
      have b5 : bits .or .u64 ((x - x % 2 ^ 63 : Nat) : Int) 4607182418800017408 = (roundW x : Int) := b5
      generalize roundW x = R at *
      generalize x - x % 2 ^ 63 = S at *
      subst h2
      clear h hx hk e h1 hk2
      go_enter Try.func77, Try.ntmps77
      go_wp2
      go_ret
      exact ⟨rfl, rfl⟩
    · have e : roundW x = x - x % 2 ^ 63 := by unfold roundW; rw [← hk, if_pos h1, if_neg h2]
      have b4 := run_unbits' (roundW x)
      rw [← e] at b3
      generalize roundW x = R at *
      have h3 : ((k : Int) == 1022) = false := by simp; omega
      clear h hx hk e h2
      go_enter Try.func77, Try.ntmps77
      go_wp2
      go_ret
      exact ⟨rfl, rfl⟩
  · by_cases h2 : k < 1075
    · have e : roundW x = (x + 2 ^ (1074 - k)) - (x + 2 ^ (1074 - k)) % 2 ^ (1075 - k) := by unfold roundW; rw [← hk, if_neg h1, if_pos h2]
      have b4 := run_unbits' (roundW x)
      obtain ⟨j, hj⟩ : ∃ j : Nat, (k : Int) - 1023 = (j : Int) := ⟨k - 1023, by omega⟩
      have hj1 : j ≤ 51 := by omega
      have s1 : (2251799813685248 : Int) / 2 ^ j = ((2 ^ (1074 - k) : Nat) : Int) := by
        have : 1074 - k = 51 - j := by omega
        rw [this]
        have h3 : (2251799813685248 : Nat) = 2 ^ (51 - j) * 2 ^ j := by rw [← Nat.pow_add, show 51 - j + j = 51 by omega]
        have h4 : (2251799813685248 : Nat) / 2 ^ j = 2 ^ (51 - j) := by rw [h3]; exact Nat.mul_div_cancel _ (Nat.two_pow_pos j)
        rw [← h4]; simp
      have s2 : (4503599627370495 : Int) / 2 ^ j = ((2 ^ (1075 - k) - 1 : Nat) : Int) := by
        have : 1075 - k = 52 - j := by omega
        rw [this]
        have h3 : (4503599627370495 : Nat) = 2 ^ (52 - j) * 2 ^ j - 1 := by rw [← Nat.pow_add, show 52 - j + j = 52 by omega]
        have h4 : (4503599627370495 : Nat) / 2 ^ j = 2 ^ (52 - j) - 1 := by
          rw [h3]
          have hp := Nat.two_pow_pos j
          have h5 : 2 ^ (52 - j) * 2 ^ j - 1 = (2 ^ j - 1) + 2 ^ j * (2 ^ (52 - j) - 1) := by
            rw [Nat.mul_sub, Nat.mul_one, Nat.mul_comm (2 ^ j)]
            have : 2 ^ j ≤ 2 ^ (52 - j) * 2 ^ j := Nat.le_mul_of_pos_left _ (Nat.two_pow_pos _)
            omega
          rw [h5, Nat.add_mul_div_left _ _ hp, Nat.div_eq_of_lt (by omega), Nat.zero_add]
        rw [← h4]; simp
      have q1 : 2 ^ (1074 - k) ≤ 2 ^ 51 := Nat.pow_le_pow_right (by decide) (by omega)
      have hxm : x < 2 ^ 64 - 2 ^ 51 := by have := h.2; omega
      have s4 := bits_clear_low (x + 2 ^ (1074 - k)) (1075 - k) (by omega) (by omega)
      rw [← e] at s4
      generalize roundW x = R at *
      generalize ((2 ^ (1075 - k) - 1 : Nat) : Int) = M at *
      generalize 2 ^ (1074 - k) = D at *
      clear e
      have s3 : IntKind.u64.wrap ((x : Int) + (D : Int)) = ((x + D : Nat) : Int) := by
        rw [IntKind.wrap_u64]; omega
      generalize x + D = X at *
      generalize (D : Int) = DI at *
      have hj2 : (j : Int) ≤ 64 := by omega
      have hj3 : (0 : Int) ≤ (j : Int) := by omega
      clear h hx hk hxm q1 hj1 b3
      go_enter Try.func77, Try.ntmps77
      go_wp2
      go_ret
      exact ⟨rfl, rfl⟩
    · have e : roundW x = x := by unfold roundW; rw [← hk, if_neg h1, if_neg h2]
      have b4 := run_unbits' x
      rw [e]
      clear h hx hk e b3
      go_enter Try.func77, Try.ntmps77
      go_wp2
      go_ret
      exact ⟨rfl, rfl⟩

def clampZ (m : Int) : Int := if m < 0 then 0 else if 255 < m then 255 else m
theorem clamp_lo {m : Int} (h : m < 0) : clampZ m = 0 := by unfold clampZ; rw [if_pos h]
theorem clamp_hi {m : Int} (h : 255 < m) : clampZ m = 255 := by unfold clampZ; rw [if_neg (by omega), if_pos h]
theorem clamp_mid {m : Int} (h : 0 ≤ m) (h2 : m ≤ 255) : clampZ m = m := by unfold clampZ; rw [if_neg (by omega), if_neg (by omega)]
set_option maxRecDepth 100000 in
set_option maxHeartbeats 400000 in
theorem byte_any (f p : Nat) (m : Int) (w : World) (h1 : Ieee.double.mul f 4643176031446892544 = some p) (h2 : Finite p) (h3 : floatToIntVal .f64 (roundW p) .i64 = some m) : Calls Try.prog 53 #[.float .f64 f] w fun e w' => e = .returned (.int .u32 (clampZ m)) ∧ w = w' := by
  have hm : ∀ w, (binOp .mul 22 (.float .f64 f) (.float .f64 4643176031446892544)).run Try.prog w = .ok (.float .f64 p) w := fun w => run_float_arith w .mul 22 .f64 _ _ _ h1
  have hc : ∀ w, (convert 22 3 (.float .f64 (roundW p))).run Try.prog w = .ok (.int .i64 m) w := fun w => run_convert_float_int w 22 3 .f64 .i64 _ _ rfl rfl h3
  have HF := Lib.hid h2
  clear h1 h2 h3
  rcases (by omega : m < 0 ∨ 255 < m ∨ (0 ≤ m ∧ m ≤ 255)) with h | h | ⟨h, h'⟩
  · rw [clamp_lo h]
    go_enter Try.func53, Try.ntmps53
    go_wp2_with (go_at_call 77; refine (Round_any _ _ HF.out).mono ?_; rintro e w' ⟨rfl, rfl⟩)
    go_ret
    exact ⟨rfl, rfl⟩
  · rw [clamp_hi h]
    have h0 : ¬ m < 0 := by omega
    go_enter Try.func53, Try.ntmps53
    go_wp2_with (go_at_call 77; refine (Round_any _ _ HF.out).mono ?_; rintro e w' ⟨rfl, rfl⟩)
    go_ret
    exact ⟨rfl, rfl⟩
  · rw [clamp_mid h h']
    have hw : IntKind.u32.wrap m = m := by rw [IntKind.wrap_u32]; omega
    go_enter Try.func53, Try.ntmps53
    go_wp2_with (go_at_call 77; refine (Round_any _ _ HF.out).mono ?_; rintro e w' ⟨rfl, rfl⟩)
    go_ret
    exact ⟨rfl, rfl⟩
set_option maxHeartbeats 400000 in
theorem ZZbyte_any (f p : Nat) (m : Int) (w : World) (h1 : Ieee.double.mul f 4643176031446892544 = some p) (h2 : Finite p) (h3 : floatToIntVal .f64 (roundW p) .i64 = some m) : Calls Try.prog 28 #[.float .f64 f] w fun e w' => e = .returned (.int .u32 (clampZ m)) ∧ w = w' := by
  have H := fun w => byte_any f p m w h1 h2 h3
  generalize clampZ m = c at *
  have H := Lib.hid H
  clear h1 h2 h3
  go_enter Try.func28, Try.ntmps28
  go_wp2_with (go_at_call 53; refine (H.out _).mono ?_; rintro e w' ⟨rfl, rfl⟩)
  go_ret
  exact ⟨rfl, rfl⟩
set_option maxHeartbeats 400000 in
theorem clamp_any (m : Int) (w : World) : Calls Try.prog 29 #[.int .i64 m] w fun e w' => e = .returned (.int .u32 (clampZ m)) ∧ w = w' := by
  rcases (by omega : m < 0 ∨ 255 < m ∨ (0 ≤ m ∧ m ≤ 255)) with h | h | ⟨h, h'⟩
  · rw [clamp_lo h]
    go_enter Try.func29, Try.ntmps29
    go_wp2
    go_ret
    exact ⟨rfl, rfl⟩
  · rw [clamp_hi h]
    have h0 : ¬ m < 0 := by omega
    go_enter Try.func29, Try.ntmps29
    go_wp2
    go_ret
    exact ⟨rfl, rfl⟩
  · rw [clamp_mid h h']
    have hw : IntKind.u32.wrap m = m := by rw [IntKind.wrap_u32]; omega
    go_enter Try.func29, Try.ntmps29
    go_wp2
    go_ret
    exact ⟨rfl, rfl⟩
end Go.Proofs.Ytafeeebgleecfaa.Byt
