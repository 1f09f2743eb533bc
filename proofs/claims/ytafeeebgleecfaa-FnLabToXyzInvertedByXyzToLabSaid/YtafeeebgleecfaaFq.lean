/-
  Contracts of math's functions that work on a float's digits: Abs, Copysign, Signbit, IsNaN, IsInf.
-/
import Derived.Test.YtafeeebgleecfaaRows
import Derived.WalkKit
import Derived.ProofKit
import Derived.OpenShut
import Derived.Below
import Derived.Lib.Hide
import Derived.Outline
import Derived.Laws.Cover2
import Derived.Laws.FloatArith
import Derived.Laws.Externs
import Derived.Test.YtafeeebgleecfaaFLH
namespace Go.Proofs.Ytafeeebgleecfaa.Fx
open Go.ChangeShapes Go.WideShapes Go.ChangeAt Go.RowKit
open FL
set_option linter.unusedVariables false
theorem run_bits (x : Nat) (w : World) : (callFunc 85 #[.float .f64 x]).run Try.prog w = .ok (.value (.int .u64 x)) w := by
  rw [run_callFunc_extern (e := Extern.MathFloatBits.float64bits) Try.func85 (by decide +kernel) rfl (by kernel_rfl) (by kernel_rfl)]; rfl
theorem run_unbits (x : Int) (w : World) : (callFunc 83 #[.int .u64 x]).run Try.prog w = .ok (.value (.float .f64 x.toNat)) w := by
  rw [run_callFunc_extern (e := Extern.MathFloatBits.float64frombits) Try.func83 (by decide +kernel) rfl (by kernel_rfl) (by kernel_rfl)]; rfl
theorem run_unbits' (x : Nat) (w : World) : (callFunc 83 #[.int .u64 (x : Int)]).run Try.prog w = .ok (.value (.float .f64 x)) w := run_unbits x w
set_option maxRecDepth 100000 in
set_option maxHeartbeats 400000 in
theorem Abs_any (x : Nat) (w : World) (h : x < 2 ^ 64) : Calls Try.prog 107 #[.float .f64 x] w fun e w' => e = .returned (.float .f64 (mag x)) ∧ w = w' := by
  have h1 := run_bits x
  have h2 := run_unbits' (x % 2 ^ 63)
  have h3 := bits_clear_high x h
  show Calls Try.prog 107 #[.float .f64 x] w fun e w' => e = .returned (.float .f64 (x % 2 ^ 63)) ∧ w = w'
  generalize x % 2 ^ 63 = m at *
  clear h
  go_enter Try.func107, Try.ntmps107
  go_wp2
  go_ret
  exact ⟨rfl, rfl⟩
set_option maxRecDepth 100000 in
set_option maxHeartbeats 400000 in
theorem Copysign_any (x y : Nat) (w : World) (h : x < 2 ^ 64) (hy : y < 2 ^ 64) : Calls Try.prog 109 #[.float .f64 x, .float .f64 y] w fun e w' => e = .returned (.float .f64 (x % 2 ^ 63 + (y - y % 2 ^ 63))) ∧ w = w' := by
  have h1 := run_bits x
  have h1' := run_bits y
  have h2 := run_unbits' (x % 2 ^ 63 + (y - y % 2 ^ 63))
  have h3 := bits_clear_high x h
  have h4 := bits_sign y hy
  have h5 := FL.bits_join (x % 2 ^ 63) y (Nat.mod_lt _ (by decide)) hy
  generalize x % 2 ^ 63 = m at *
  generalize y - y % 2 ^ 63 = s at *
  generalize m + s = r at *
  clear h hy
  go_enter Try.func109, Try.ntmps109
  go_wp2
  go_ret
  exact ⟨rfl, rfl⟩
theorem wrap_i64_u (x : Nat) (h : x < 2 ^ 64) : IntKind.i64.wrap (x : Int) = if x < 2 ^ 63 then (x : Int) else (x : Int) - 2 ^ 64 := by
  simp [IntKind.wrap, IntKind.bits, IntKind.signed]
  split <;> split <;> omega
def negB (x : Nat) : Bool := decide (2 ^ 63 ≤ x)
set_option maxRecDepth 100000 in
set_option maxHeartbeats 400000 in
theorem Signbit_any (x : Nat) (w : World) (h : x < 2 ^ 64) : Calls Try.prog 102 #[.float .f64 x] w fun e w' => e = .returned (.bool (negB x)) ∧ w = w' := by
  have h1 := run_bits x
  have h3 : ∀ w, (convert 53 2 (.int .u64 (x : Int))).run Try.prog w = .ok (.int .i64 (if x < 2 ^ 63 then (x : Int) else (x : Int) - 2 ^ 64)) w := by
    intro w
    rw [← wrap_i64_u x h]; rfl
  have h4 : decide ((if x < 2 ^ 63 then (x : Int) else (x : Int) - 2 ^ 64) < 0) = negB x := by
    unfold negB
    split <;> simp <;> omega
  generalize (if x < 2 ^ 63 then (x : Int) else (x : Int) - 2 ^ 64) = z at *
  clear h
  go_enter Try.func102, Try.ntmps102
  go_wp2
  go_ret
  exact ⟨rfl, rfl⟩
set_option maxHeartbeats 400000 in
theorem IsNaN_fin (x : Nat) (w : World) (h : FL.Good x) : Calls Try.prog 99 #[.float .f64 x] w fun e w' => e = .returned (.bool false) ∧ w = w' := by
  have h1 : (FloatKind.f64.format.order x x != some .eq) = false := by rw [show FloatKind.f64.format.order x x = some .eq from good_self h]; rfl
  clear h
  go_enter Try.func99, Try.ntmps99
  go_wp2
  go_ret
  exact ⟨rfl, rfl⟩
theorem max_fin : Finite 9218868437227405311 := by decide +kernel
theorem val_le_max (x : Nat) (h : Finite x) : gtB x 9218868437227405311 = false := by
  rw [gtB_ok h max_fin]
  simp only [decide_eq_false_iff_not]
  intro hlt
  obtain ⟨s, m, i, hr, hm, hi, hi2⟩ := read_fin x h
  have hv : val x = sg s * ((m : Rat) * p2 i) := by simp [val, hr, dval]
  have hM : val 9218868437227405311 = ((2 ^ 53 - 1 : Nat) : Rat) * p2 971 := by
    have := (val_rung false 2045 (2 ^ 53 - 1) (by decide) (.inr (by decide)) (by decide)).2
    simpa [Ieee.Format.word, sg] using this
  have h1 : (m : Rat) ≤ ((2 ^ 53 - 1 : Nat) : Rat) := by exact_mod_cast (by omega : m ≤ 2 ^ 53 - 1)
  have h2 := p2_le hi2
  have h3 := Rat.mul_le_mul_of_nonneg_right h1 (Rat.le_of_lt (p2_pos i))
  have h4 := Rat.mul_le_mul_of_nonneg_left h2 (Rat.natCast_nonneg (a := 2 ^ 53 - 1))
  have h5 : 0 ≤ (m : Rat) * p2 i := mp_nonneg m i
  rw [hv, hM] at hlt
  rcases sg_cases s with a | a <;> rw [a] at hlt <;> grind
set_option maxRecDepth 100000 in
set_option maxHeartbeats 400000 in
theorem IsInf0_fin (x : Nat) (w : World) (h : Finite x) : Calls Try.prog 100 #[.float .f64 x, .int .i64 0] w fun e w' => e = .returned (.bool false) ∧ w = w' := by
  have h1 : (FloatKind.f64.format.order (mag x) 9218868437227405311 == some .gt) = false := val_le_max _ (mag_fin x h)
  have hx := h.1
  clear h
  go_enter Try.func100, Try.ntmps100
  go_wp2_with fail
  refine (Abs_any x _ hx).mono ?_
  rintro e w' ⟨rfl, rfl⟩
  clear hx
  go_wp2
  go_ret
  exact ⟨rfl, rfl⟩
end Go.Proofs.Ytafeeebgleecfaa.Fx
