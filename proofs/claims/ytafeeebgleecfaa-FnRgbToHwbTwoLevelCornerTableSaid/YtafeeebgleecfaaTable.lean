/-
  rgb_to_hwb at the corners of any box of two levels within 1e300 gives the table's hue, whiteness and blackness; no conditions.
-/
import Derived.Test.YtafeeebgleecfaaRows
import Derived.WalkKit
import Derived.ProofKit
import Derived.OpenShut
import Derived.ShutString
import Derived.ChangeOld
import Derived.Below
import Derived.Lib.Hide
import Derived.Outline
import Derived.Laws.Cover2
import Derived.Laws.Cover2
import Derived.Laws.FloatArith
import Derived.Test.YtafeeebgleecfaaCor
namespace Go.Proofs.Ytafeeebgleecfaa.fnRgbToHwbTwoLevelCornerTable
open Go.ChangeShapes Go.WideShapes Go.ChangeAt Go.RowKit
open Go.ChangeMaps (open_string shut_string)
set_option linter.unusedVariables false

theorem own : ownKnob Try.prog.godebug = none := by kernel_rfl
theorem laidOut : laidOutB Try.prog = true := by kernel_rfl

open Mat FL
def bigC : Nat := 9094988921128908188
def bigM : Nat := FL.flip 9094988921128908188
set_option maxHeartbeats 400000 in
theorem within_any (x : Nat) (w : World) : Calls Try.prog 30 #[.float .f64 x, .float .f64 9094988921128908188] w fun e w' => e = .returned (.bool (geB x bigM && leB x 9094988921128908188)) ∧ w = w' := by
  have hn : ∀ w, (Op.unary .neg (.float .f64 9094988921128908188)).run Try.prog w = .ok (.float .f64 bigM) w := fun w => rfl
  cases h1 : FloatKind.f64.format.order x bigM with
  | none =>
    have g : geB x bigM = false := by unfold geB; rw [show Ieee.double.order x bigM = none from h1]; rfl
    rw [g]
    generalize bigM = m at *
    go_enter Try.func30, Try.ntmps30
    go_wp2
    go_ret
    exact ⟨rfl, rfl⟩
  | some o =>
    cases o
    · have g : geB x bigM = false := by unfold geB; rw [show Ieee.double.order x bigM = some .lt from h1]; rfl
      rw [g]
      generalize bigM = m at *
      go_enter Try.func30, Try.ntmps30
      go_wp2
      go_ret
      exact ⟨rfl, rfl⟩
    · have g : geB x bigM = true := by unfold geB; rw [show Ieee.double.order x bigM = some .eq from h1]; rfl
      rw [g]
      generalize bigM = m at *
      go_enter Try.func30, Try.ntmps30
      go_wp2
      go_ret
      exact ⟨rfl, rfl⟩
    · have g : geB x bigM = true := by unfold geB; rw [show Ieee.double.order x bigM = some .gt from h1]; rfl
      rw [g]
      generalize bigM = m at *
      go_enter Try.func30, Try.ntmps30
      go_wp2
      go_ret
      exact ⟨rfl, rfl⟩
set_option maxHeartbeats 400000 in
theorem cornerHue4 (w : World) : Calls Try.prog 32 #[.int .u8 4] w fun e w' => e = .returned (.float .f64 0) ∧ w = w' := by
  go_enter Try.func32, Try.ntmps32
  go_wp2
  go_ret
  exact ⟨rfl, rfl⟩
set_option maxHeartbeats 400000 in
theorem cornerHue6 (w : World) : Calls Try.prog 32 #[.int .u8 6] w fun e w' => e = .returned (.float .f64 4633641066610819072) ∧ w = w' := by
  go_enter Try.func32, Try.ntmps32
  go_wp2
  go_ret
  exact ⟨rfl, rfl⟩
set_option maxHeartbeats 400000 in
theorem cornerHue2 (w : World) : Calls Try.prog 32 #[.int .u8 2] w fun e w' => e = .returned (.float .f64 4638144666238189568) ∧ w = w' := by
  go_enter Try.func32, Try.ntmps32
  go_wp2
  go_ret
  exact ⟨rfl, rfl⟩
set_option maxHeartbeats 400000 in
theorem cornerHue3 (w : World) : Calls Try.prog 32 #[.int .u8 3] w fun e w' => e = .returned (.float .f64 4640537203540230144) ∧ w = w' := by
  go_enter Try.func32, Try.ntmps32
  go_wp2
  go_ret
  exact ⟨rfl, rfl⟩
set_option maxHeartbeats 400000 in
theorem cornerHue1 (w : World) : Calls Try.prog 32 #[.int .u8 1] w fun e w' => e = .returned (.float .f64 4642648265865560064) ∧ w = w' := by
  go_enter Try.func32, Try.ntmps32
  go_wp2
  go_ret
  exact ⟨rfl, rfl⟩
set_option maxHeartbeats 400000 in
theorem cornerHue5 (w : World) : Calls Try.prog 32 #[.int .u8 5] w fun e w' => e = .returned (.float .f64 4643985272004935680) ∧ w = w' := by
  go_enter Try.func32, Try.ntmps32
  go_wp2
  go_ret
  exact ⟨rfl, rfl⟩
set_option maxRecDepth 100000 in
set_option maxHeartbeats 4000000 in
theorem main0 (lo hi h wO bO x1 x2 : Nat) (w : World) (i1 : Hid ((geB lo bigM && leB lo 9094988921128908188) = true)) (i2 : Hid ((geB hi bigM && leB hi 9094988921128908188) = true)) (hlt : ltB lo hi = true)
    (hc : ∀ w, Calls Try.prog 31 #[.float .f64 lo, .float .f64 lo, .float .f64 lo] w fun e w' => e = .returned (.tuple #[.float .f64 h, .float .f64 wO, .float .f64 bO]) ∧ Below w.heap.size w w') (hq : (eqB h h = false)) (k1 : Ieee.double.mul lo 4636737291354636288 = some wO) (k2 : Ieee.double.sub 4607182418800017408 lo = some x1) (k3 : Ieee.double.mul x1 4636737291354636288 = some x2) (k4 : eqB wO wO = true) (k5 : eqB bO x2 = true) :
    Calls Try.prog 8 #[.float .f64 lo, .float .f64 hi, .int .u8 0] w fun e w' => e = .returned (.bool true) ∧ Below w.heap.size w w' := by
  have q1 : (FloatKind.f64.format.order lo hi == some .lt) = true := hlt
  have q2 : (FloatKind.f64.format.order h h != some .eq) = true := by simpa using neq_ok hq
  have q3 : (FloatKind.f64.format.order wO wO == some .eq) = true := k4
  have q4 : (FloatKind.f64.format.order bO x2 == some .eq) = true := k5
  have m1 : ∀ w, (binOp .mul 22 (.float .f64 lo) (.float .f64 4636737291354636288)).run Try.prog w = .ok (.float .f64 wO) w := fun w => run_float_arith w .mul 22 .f64 _ _ _ k1
  have m2 : ∀ w, (binOp .sub 22 (.float .f64 4607182418800017408) (.float .f64 lo)).run Try.prog w = .ok (.float .f64 x1) w := fun w => run_float_arith w .sub 22 .f64 _ _ _ k2
  have m3 : ∀ w, (binOp .mul 22 (.float .f64 x1) (.float .f64 4636737291354636288)).run Try.prog w = .ok (.float .f64 x2) w := fun w => run_float_arith w .mul 22 .f64 _ _ _ k3
  have HC := Lib.hid hc
  clear hc hq k1 k2 k3 k4 k5 hlt
  go_enter Try.func8, Try.ntmps8
  go_wp2_with fail
  refine (within_any _ _).mono ?_
  rintro e w' ⟨rfl, rfl⟩
  rw [i1.out]
  go_wp2_with fail
  refine (within_any _ _).mono ?_
  rintro e w' ⟨rfl, rfl⟩
  rw [i2.out]
  go_wp2_with fail
  refine (HC.out _).mono ?_
  rintro e w1 ⟨rfl, hb⟩
  have HB := Lib.hid hb
  clear hb
  go_wp2
  go_ret
  exact ⟨rfl, HB.out⟩
set_option maxRecDepth 100000 in
set_option maxHeartbeats 4000000 in
theorem main1 (lo hi h wO bO x1 x2 : Nat) (w : World) (i1 : Hid ((geB lo bigM && leB lo 9094988921128908188) = true)) (i2 : Hid ((geB hi bigM && leB hi 9094988921128908188) = true)) (hlt : ltB lo hi = true)
    (hc : ∀ w, Calls Try.prog 31 #[.float .f64 lo, .float .f64 lo, .float .f64 hi] w fun e w' => e = .returned (.tuple #[.float .f64 h, .float .f64 wO, .float .f64 bO]) ∧ Below w.heap.size w w') (hq : (eqB h 4642648265865560064 = true)) (k1 : Ieee.double.mul lo 4636737291354636288 = some wO) (k2 : Ieee.double.sub 4607182418800017408 hi = some x1) (k3 : Ieee.double.mul x1 4636737291354636288 = some x2) (k4 : eqB wO wO = true) (k5 : eqB bO x2 = true) :
    Calls Try.prog 8 #[.float .f64 lo, .float .f64 hi, .int .u8 1] w fun e w' => e = .returned (.bool true) ∧ Below w.heap.size w w' := by
  have q1 : (FloatKind.f64.format.order lo hi == some .lt) = true := hlt
  have q2 : (FloatKind.f64.format.order h 4642648265865560064 == some .eq) = true := hq
  have q3 : (FloatKind.f64.format.order wO wO == some .eq) = true := k4
  have q4 : (FloatKind.f64.format.order bO x2 == some .eq) = true := k5
  have m1 : ∀ w, (binOp .mul 22 (.float .f64 lo) (.float .f64 4636737291354636288)).run Try.prog w = .ok (.float .f64 wO) w := fun w => run_float_arith w .mul 22 .f64 _ _ _ k1
  have m2 : ∀ w, (binOp .sub 22 (.float .f64 4607182418800017408) (.float .f64 hi)).run Try.prog w = .ok (.float .f64 x1) w := fun w => run_float_arith w .sub 22 .f64 _ _ _ k2
  have m3 : ∀ w, (binOp .mul 22 (.float .f64 x1) (.float .f64 4636737291354636288)).run Try.prog w = .ok (.float .f64 x2) w := fun w => run_float_arith w .mul 22 .f64 _ _ _ k3
  have HC := Lib.hid hc
  clear hc hq k1 k2 k3 k4 k5 hlt
  go_enter Try.func8, Try.ntmps8
  go_wp2_with fail
  refine (within_any _ _).mono ?_
  rintro e w' ⟨rfl, rfl⟩
  rw [i1.out]
  go_wp2_with fail
  refine (within_any _ _).mono ?_
  rintro e w' ⟨rfl, rfl⟩
  rw [i2.out]
  go_wp2_with fail
  refine (HC.out _).mono ?_
  rintro e w1 ⟨rfl, hb⟩
  have HB := Lib.hid hb
  clear hb
  go_wp2_with (go_at_call 32; refine (cornerHue1 _).mono ?_; rintro e w' ⟨rfl, rfl⟩)
  go_ret
  exact ⟨rfl, HB.out⟩
set_option maxRecDepth 100000 in
set_option maxHeartbeats 4000000 in
theorem main2 (lo hi h wO bO x1 x2 : Nat) (w : World) (i1 : Hid ((geB lo bigM && leB lo 9094988921128908188) = true)) (i2 : Hid ((geB hi bigM && leB hi 9094988921128908188) = true)) (hlt : ltB lo hi = true)
    (hc : ∀ w, Calls Try.prog 31 #[.float .f64 lo, .float .f64 hi, .float .f64 lo] w fun e w' => e = .returned (.tuple #[.float .f64 h, .float .f64 wO, .float .f64 bO]) ∧ Below w.heap.size w w') (hq : (eqB h 4638144666238189568 = true)) (k1 : Ieee.double.mul lo 4636737291354636288 = some wO) (k2 : Ieee.double.sub 4607182418800017408 hi = some x1) (k3 : Ieee.double.mul x1 4636737291354636288 = some x2) (k4 : eqB wO wO = true) (k5 : eqB bO x2 = true) :
    Calls Try.prog 8 #[.float .f64 lo, .float .f64 hi, .int .u8 2] w fun e w' => e = .returned (.bool true) ∧ Below w.heap.size w w' := by
  have q1 : (FloatKind.f64.format.order lo hi == some .lt) = true := hlt
  have q2 : (FloatKind.f64.format.order h 4638144666238189568 == some .eq) = true := hq
  have q3 : (FloatKind.f64.format.order wO wO == some .eq) = true := k4
  have q4 : (FloatKind.f64.format.order bO x2 == some .eq) = true := k5
  have m1 : ∀ w, (binOp .mul 22 (.float .f64 lo) (.float .f64 4636737291354636288)).run Try.prog w = .ok (.float .f64 wO) w := fun w => run_float_arith w .mul 22 .f64 _ _ _ k1
  have m2 : ∀ w, (binOp .sub 22 (.float .f64 4607182418800017408) (.float .f64 hi)).run Try.prog w = .ok (.float .f64 x1) w := fun w => run_float_arith w .sub 22 .f64 _ _ _ k2
  have m3 : ∀ w, (binOp .mul 22 (.float .f64 x1) (.float .f64 4636737291354636288)).run Try.prog w = .ok (.float .f64 x2) w := fun w => run_float_arith w .mul 22 .f64 _ _ _ k3
  have HC := Lib.hid hc
  clear hc hq k1 k2 k3 k4 k5 hlt
  go_enter Try.func8, Try.ntmps8
  go_wp2_with fail
  refine (within_any _ _).mono ?_
  rintro e w' ⟨rfl, rfl⟩
  rw [i1.out]
  go_wp2_with fail
  refine (within_any _ _).mono ?_
  rintro e w' ⟨rfl, rfl⟩
  rw [i2.out]
  go_wp2_with fail
  refine (HC.out _).mono ?_
  rintro e w1 ⟨rfl, hb⟩
  have HB := Lib.hid hb
  clear hb
  go_wp2_with (go_at_call 32; refine (cornerHue2 _).mono ?_; rintro e w' ⟨rfl, rfl⟩)
  go_ret
  exact ⟨rfl, HB.out⟩
set_option maxRecDepth 100000 in
set_option maxHeartbeats 4000000 in
theorem main3 (lo hi h wO bO x1 x2 : Nat) (w : World) (i1 : Hid ((geB lo bigM && leB lo 9094988921128908188) = true)) (i2 : Hid ((geB hi bigM && leB hi 9094988921128908188) = true)) (hlt : ltB lo hi = true)
    (hc : ∀ w, Calls Try.prog 31 #[.float .f64 lo, .float .f64 hi, .float .f64 hi] w fun e w' => e = .returned (.tuple #[.float .f64 h, .float .f64 wO, .float .f64 bO]) ∧ Below w.heap.size w w') (hq : (eqB h 4640537203540230144 = true)) (k1 : Ieee.double.mul lo 4636737291354636288 = some wO) (k2 : Ieee.double.sub 4607182418800017408 hi = some x1) (k3 : Ieee.double.mul x1 4636737291354636288 = some x2) (k4 : eqB wO wO = true) (k5 : eqB bO x2 = true) :
    Calls Try.prog 8 #[.float .f64 lo, .float .f64 hi, .int .u8 3] w fun e w' => e = .returned (.bool true) ∧ Below w.heap.size w w' := by
  have q1 : (FloatKind.f64.format.order lo hi == some .lt) = true := hlt
  have q2 : (FloatKind.f64.format.order h 4640537203540230144 == some .eq) = true := hq
  have q3 : (FloatKind.f64.format.order wO wO == some .eq) = true := k4
  have q4 : (FloatKind.f64.format.order bO x2 == some .eq) = true := k5
  have m1 : ∀ w, (binOp .mul 22 (.float .f64 lo) (.float .f64 4636737291354636288)).run Try.prog w = .ok (.float .f64 wO) w := fun w => run_float_arith w .mul 22 .f64 _ _ _ k1
  have m2 : ∀ w, (binOp .sub 22 (.float .f64 4607182418800017408) (.float .f64 hi)).run Try.prog w = .ok (.float .f64 x1) w := fun w => run_float_arith w .sub 22 .f64 _ _ _ k2
  have m3 : ∀ w, (binOp .mul 22 (.float .f64 x1) (.float .f64 4636737291354636288)).run Try.prog w = .ok (.float .f64 x2) w := fun w => run_float_arith w .mul 22 .f64 _ _ _ k3
  have HC := Lib.hid hc
  clear hc hq k1 k2 k3 k4 k5 hlt
  go_enter Try.func8, Try.ntmps8
  go_wp2_with fail
  refine (within_any _ _).mono ?_
  rintro e w' ⟨rfl, rfl⟩
  rw [i1.out]
  go_wp2_with fail
  refine (within_any _ _).mono ?_
  rintro e w' ⟨rfl, rfl⟩
  rw [i2.out]
  go_wp2_with fail
  refine (HC.out _).mono ?_
  rintro e w1 ⟨rfl, hb⟩
  have HB := Lib.hid hb
  clear hb
  go_wp2_with (go_at_call 32; refine (cornerHue3 _).mono ?_; rintro e w' ⟨rfl, rfl⟩)
  go_ret
  exact ⟨rfl, HB.out⟩
set_option maxRecDepth 100000 in
set_option maxHeartbeats 4000000 in
theorem main4 (lo hi h wO bO x1 x2 : Nat) (w : World) (i1 : Hid ((geB lo bigM && leB lo 9094988921128908188) = true)) (i2 : Hid ((geB hi bigM && leB hi 9094988921128908188) = true)) (hlt : ltB lo hi = true)
    (hc : ∀ w, Calls Try.prog 31 #[.float .f64 hi, .float .f64 lo, .float .f64 lo] w fun e w' => e = .returned (.tuple #[.float .f64 h, .float .f64 wO, .float .f64 bO]) ∧ Below w.heap.size w w') (hq : (eqB h 0 = true)) (k1 : Ieee.double.mul lo 4636737291354636288 = some wO) (k2 : Ieee.double.sub 4607182418800017408 hi = some x1) (k3 : Ieee.double.mul x1 4636737291354636288 = some x2) (k4 : eqB wO wO = true) (k5 : eqB bO x2 = true) :
    Calls Try.prog 8 #[.float .f64 lo, .float .f64 hi, .int .u8 4] w fun e w' => e = .returned (.bool true) ∧ Below w.heap.size w w' := by
  have q1 : (FloatKind.f64.format.order lo hi == some .lt) = true := hlt
  have q2 : (FloatKind.f64.format.order h 0 == some .eq) = true := hq
  have q3 : (FloatKind.f64.format.order wO wO == some .eq) = true := k4
  have q4 : (FloatKind.f64.format.order bO x2 == some .eq) = true := k5
  have m1 : ∀ w, (binOp .mul 22 (.float .f64 lo) (.float .f64 4636737291354636288)).run Try.prog w = .ok (.float .f64 wO) w := fun w => run_float_arith w .mul 22 .f64 _ _ _ k1
  have m2 : ∀ w, (binOp .sub 22 (.float .f64 4607182418800017408) (.float .f64 hi)).run Try.prog w = .ok (.float .f64 x1) w := fun w => run_float_arith w .sub 22 .f64 _ _ _ k2
  have m3 : ∀ w, (binOp .mul 22 (.float .f64 x1) (.float .f64 4636737291354636288)).run Try.prog w = .ok (.float .f64 x2) w := fun w => run_float_arith w .mul 22 .f64 _ _ _ k3
  have HC := Lib.hid hc
  clear hc hq k1 k2 k3 k4 k5 hlt
  go_enter Try.func8, Try.ntmps8
  go_wp2_with fail
  refine (within_any _ _).mono ?_
  rintro e w' ⟨rfl, rfl⟩
  rw [i1.out]
  go_wp2_with fail
  refine (within_any _ _).mono ?_
  rintro e w' ⟨rfl, rfl⟩
  rw [i2.out]
  go_wp2_with fail
  refine (HC.out _).mono ?_
  rintro e w1 ⟨rfl, hb⟩
  have HB := Lib.hid hb
  clear hb
  go_wp2_with (go_at_call 32; refine (cornerHue4 _).mono ?_; rintro e w' ⟨rfl, rfl⟩)
  go_ret
  exact ⟨rfl, HB.out⟩
set_option maxRecDepth 100000 in
set_option maxHeartbeats 4000000 in
theorem main5 (lo hi h wO bO x1 x2 : Nat) (w : World) (i1 : Hid ((geB lo bigM && leB lo 9094988921128908188) = true)) (i2 : Hid ((geB hi bigM && leB hi 9094988921128908188) = true)) (hlt : ltB lo hi = true)
    (hc : ∀ w, Calls Try.prog 31 #[.float .f64 hi, .float .f64 lo, .float .f64 hi] w fun e w' => e = .returned (.tuple #[.float .f64 h, .float .f64 wO, .float .f64 bO]) ∧ Below w.heap.size w w') (hq : (eqB h 4643985272004935680 = true)) (k1 : Ieee.double.mul lo 4636737291354636288 = some wO) (k2 : Ieee.double.sub 4607182418800017408 hi = some x1) (k3 : Ieee.double.mul x1 4636737291354636288 = some x2) (k4 : eqB wO wO = true) (k5 : eqB bO x2 = true) :
    Calls Try.prog 8 #[.float .f64 lo, .float .f64 hi, .int .u8 5] w fun e w' => e = .returned (.bool true) ∧ Below w.heap.size w w' := by
  have q1 : (FloatKind.f64.format.order lo hi == some .lt) = true := hlt
  have q2 : (FloatKind.f64.format.order h 4643985272004935680 == some .eq) = true := hq
  have q3 : (FloatKind.f64.format.order wO wO == some .eq) = true := k4
  have q4 : (FloatKind.f64.format.order bO x2 == some .eq) = true := k5
  have m1 : ∀ w, (binOp .mul 22 (.float .f64 lo) (.float .f64 4636737291354636288)).run Try.prog w = .ok (.float .f64 wO) w := fun w => run_float_arith w .mul 22 .f64 _ _ _ k1
  have m2 : ∀ w, (binOp .sub 22 (.float .f64 4607182418800017408) (.float .f64 hi)).run Try.prog w = .ok (.float .f64 x1) w := fun w => run_float_arith w .sub 22 .f64 _ _ _ k2
  have m3 : ∀ w, (binOp .mul 22 (.float .f64 x1) (.float .f64 4636737291354636288)).run Try.prog w = .ok (.float .f64 x2) w := fun w => run_float_arith w .mul 22 .f64 _ _ _ k3
  have HC := Lib.hid hc
  clear hc hq k1 k2 k3 k4 k5 hlt
  go_enter Try.func8, Try.ntmps8
  go_wp2_with fail
  refine (within_any _ _).mono ?_
  rintro e w' ⟨rfl, rfl⟩
  rw [i1.out]
  go_wp2_with fail
  refine (within_any _ _).mono ?_
  rintro e w' ⟨rfl, rfl⟩
  rw [i2.out]
  go_wp2_with fail
  refine (HC.out _).mono ?_
  rintro e w1 ⟨rfl, hb⟩
  have HB := Lib.hid hb
  clear hb
  go_wp2_with (go_at_call 32; refine (cornerHue5 _).mono ?_; rintro e w' ⟨rfl, rfl⟩)
  go_ret
  exact ⟨rfl, HB.out⟩
set_option maxRecDepth 100000 in
set_option maxHeartbeats 4000000 in
theorem main6 (lo hi h wO bO x1 x2 : Nat) (w : World) (i1 : Hid ((geB lo bigM && leB lo 9094988921128908188) = true)) (i2 : Hid ((geB hi bigM && leB hi 9094988921128908188) = true)) (hlt : ltB lo hi = true)
    (hc : ∀ w, Calls Try.prog 31 #[.float .f64 hi, .float .f64 hi, .float .f64 lo] w fun e w' => e = .returned (.tuple #[.float .f64 h, .float .f64 wO, .float .f64 bO]) ∧ Below w.heap.size w w') (hq : (eqB h 4633641066610819072 = true)) (k1 : Ieee.double.mul lo 4636737291354636288 = some wO) (k2 : Ieee.double.sub 4607182418800017408 hi = some x1) (k3 : Ieee.double.mul x1 4636737291354636288 = some x2) (k4 : eqB wO wO = true) (k5 : eqB bO x2 = true) :
    Calls Try.prog 8 #[.float .f64 lo, .float .f64 hi, .int .u8 6] w fun e w' => e = .returned (.bool true) ∧ Below w.heap.size w w' := by
  have q1 : (FloatKind.f64.format.order lo hi == some .lt) = true := hlt
  have q2 : (FloatKind.f64.format.order h 4633641066610819072 == some .eq) = true := hq
  have q3 : (FloatKind.f64.format.order wO wO == some .eq) = true := k4
  have q4 : (FloatKind.f64.format.order bO x2 == some .eq) = true := k5
  have m1 : ∀ w, (binOp .mul 22 (.float .f64 lo) (.float .f64 4636737291354636288)).run Try.prog w = .ok (.float .f64 wO) w := fun w => run_float_arith w .mul 22 .f64 _ _ _ k1
  have m2 : ∀ w, (binOp .sub 22 (.float .f64 4607182418800017408) (.float .f64 hi)).run Try.prog w = .ok (.float .f64 x1) w := fun w => run_float_arith w .sub 22 .f64 _ _ _ k2
  have m3 : ∀ w, (binOp .mul 22 (.float .f64 x1) (.float .f64 4636737291354636288)).run Try.prog w = .ok (.float .f64 x2) w := fun w => run_float_arith w .mul 22 .f64 _ _ _ k3
  have HC := Lib.hid hc
  clear hc hq k1 k2 k3 k4 k5 hlt
  go_enter Try.func8, Try.ntmps8
  go_wp2_with fail
  refine (within_any _ _).mono ?_
  rintro e w' ⟨rfl, rfl⟩
  rw [i1.out]
  go_wp2_with fail
  refine (within_any _ _).mono ?_
  rintro e w' ⟨rfl, rfl⟩
  rw [i2.out]
  go_wp2_with fail
  refine (HC.out _).mono ?_
  rintro e w1 ⟨rfl, hb⟩
  have HB := Lib.hid hb
  clear hb
  go_wp2_with (go_at_call 32; refine (cornerHue6 _).mono ?_; rintro e w' ⟨rfl, rfl⟩)
  go_ret
  exact ⟨rfl, HB.out⟩
set_option maxRecDepth 100000 in
set_option maxHeartbeats 4000000 in
theorem main7 (lo hi h wO bO x1 x2 : Nat) (w : World) (i1 : Hid ((geB lo bigM && leB lo 9094988921128908188) = true)) (i2 : Hid ((geB hi bigM && leB hi 9094988921128908188) = true)) (hlt : ltB lo hi = true)
    (hc : ∀ w, Calls Try.prog 31 #[.float .f64 hi, .float .f64 hi, .float .f64 hi] w fun e w' => e = .returned (.tuple #[.float .f64 h, .float .f64 wO, .float .f64 bO]) ∧ Below w.heap.size w w') (hq : (eqB h h = false)) (k1 : Ieee.double.mul hi 4636737291354636288 = some wO) (k2 : Ieee.double.sub 4607182418800017408 hi = some x1) (k3 : Ieee.double.mul x1 4636737291354636288 = some x2) (k4 : eqB wO wO = true) (k5 : eqB bO x2 = true) :
    Calls Try.prog 8 #[.float .f64 lo, .float .f64 hi, .int .u8 7] w fun e w' => e = .returned (.bool true) ∧ Below w.heap.size w w' := by
  have q1 : (FloatKind.f64.format.order lo hi == some .lt) = true := hlt
  have q2 : (FloatKind.f64.format.order h h != some .eq) = true := by simpa using neq_ok hq
  have q3 : (FloatKind.f64.format.order wO wO == some .eq) = true := k4
  have q4 : (FloatKind.f64.format.order bO x2 == some .eq) = true := k5
  have m1 : ∀ w, (binOp .mul 22 (.float .f64 hi) (.float .f64 4636737291354636288)).run Try.prog w = .ok (.float .f64 wO) w := fun w => run_float_arith w .mul 22 .f64 _ _ _ k1
  have m2 : ∀ w, (binOp .sub 22 (.float .f64 4607182418800017408) (.float .f64 hi)).run Try.prog w = .ok (.float .f64 x1) w := fun w => run_float_arith w .sub 22 .f64 _ _ _ k2
  have m3 : ∀ w, (binOp .mul 22 (.float .f64 x1) (.float .f64 4636737291354636288)).run Try.prog w = .ok (.float .f64 x2) w := fun w => run_float_arith w .mul 22 .f64 _ _ _ k3
  have HC := Lib.hid hc
  clear hc hq k1 k2 k3 k4 k5 hlt
  go_enter Try.func8, Try.ntmps8
  go_wp2_with fail
  refine (within_any _ _).mono ?_
  rintro e w' ⟨rfl, rfl⟩
  rw [i1.out]
  go_wp2_with fail
  refine (within_any _ _).mono ?_
  rintro e w' ⟨rfl, rfl⟩
  rw [i2.out]
  go_wp2_with fail
  refine (HC.out _).mono ?_
  rintro e w1 ⟨rfl, hb⟩
  have HB := Lib.hid hb
  clear hb
  go_wp2
  go_ret
  exact ⟨rfl, HB.out⟩
set_option maxRecDepth 100000 in
set_option maxHeartbeats 1000000 in
theorem out0 (lo hi : Nat) (m : Int) (w : World) (h : 7 < m) : Calls Try.prog 8 #[.float .f64 lo, .float .f64 hi, .int .u8 m] w fun e w' => e = .returned (.bool true) ∧ Below w.heap.size w w' := by
  go_enter Try.func8, Try.ntmps8
  go_wp2
  go_ret
  exact ⟨rfl, Below.refl _ _⟩
set_option maxRecDepth 100000 in
set_option maxHeartbeats 1000000 in
theorem out1 (lo hi : Nat) (m : Int) (w : World) (h : m ≤ 7) (i1 : Hid ((geB lo bigM && leB lo 9094988921128908188) = false)) : Calls Try.prog 8 #[.float .f64 lo, .float .f64 hi, .int .u8 m] w fun e w' => e = .returned (.bool true) ∧ Below w.heap.size w w' := by
  go_enter Try.func8, Try.ntmps8
  go_wp2_with fail
  refine (within_any _ _).mono ?_
  rintro e w' ⟨rfl, rfl⟩
  rw [i1.out]
  go_wp2
  go_ret
  exact ⟨rfl, Below.refl _ _⟩
set_option maxRecDepth 100000 in
set_option maxHeartbeats 1000000 in
theorem out2 (lo hi : Nat) (m : Int) (w : World) (h : m ≤ 7) (i1 : Hid ((geB lo bigM && leB lo 9094988921128908188) = true)) (i2 : Hid ((geB hi bigM && leB hi 9094988921128908188) = false)) : Calls Try.prog 8 #[.float .f64 lo, .float .f64 hi, .int .u8 m] w fun e w' => e = .returned (.bool true) ∧ Below w.heap.size w w' := by
  go_enter Try.func8, Try.ntmps8
  go_wp2_with fail
  refine (within_any _ _).mono ?_
  rintro e w' ⟨rfl, rfl⟩
  rw [i1.out]
  go_wp2_with fail
  refine (within_any _ _).mono ?_
  rintro e w' ⟨rfl, rfl⟩
  rw [i2.out]
  go_wp2
  go_ret
  exact ⟨rfl, Below.refl _ _⟩
set_option maxRecDepth 100000 in
set_option maxHeartbeats 1000000 in
theorem out3 (lo hi : Nat) (m : Int) (w : World) (h : m ≤ 7) (i1 : Hid ((geB lo bigM && leB lo 9094988921128908188) = true)) (i2 : Hid ((geB hi bigM && leB hi 9094988921128908188) = true)) (hlt : ltB lo hi = false) : Calls Try.prog 8 #[.float .f64 lo, .float .f64 hi, .int .u8 m] w fun e w' => e = .returned (.bool true) ∧ Below w.heap.size w w' := by
  have q1 : (FloatKind.f64.format.order lo hi == some .lt) = false := hlt
  clear hlt
  go_enter Try.func8, Try.ntmps8
  go_wp2_with fail
  refine (within_any _ _).mono ?_
  rintro e w' ⟨rfl, rfl⟩
  rw [i1.out]
  go_wp2_with fail
  refine (within_any _ _).mono ?_
  rintro e w' ⟨rfl, rfl⟩
  rw [i2.out]
  go_wp2
  go_ret
  exact ⟨rfl, Below.refl _ _⟩
theorem in_fin {x : Nat} (hx : x < 2 ^ 64) (h : (geB x bigM && leB x 9094988921128908188) = true) : Finite x ∧ -p2 1000 ≤ val x ∧ val x ≤ p2 1000 := by
  simp only [Bool.and_eq_true] at h
  obtain ⟨fc, vc⟩ := cBig
  have fm : Finite bigM := flip_fin _ fc
  have vm : val bigM = - val 9094988921128908188 := flip_val _ fc.1
  obtain ⟨h1, h2, h3⟩ := finite_between hx fm fc h.1 h.2
  rw [vm] at h2
  exact ⟨h1, by grind, by grind⟩

set_option maxRecDepth 100000 in
set_option maxHeartbeats 4000000 in
/-- THE WALK -/
theorem walk (a0 : Nat) (a1 : Nat) (a2 : Int) (w : World) (w0 : (Lit.float .f64 a0).wf = true) (w1 : (Lit.float .f64 a1).wf = true) (w2 : (Lit.int .u8 a2).wf = true) :
    Calls Try.prog 8 #[.float .f64 a0, .float .f64 a1, .int .u8 a2] w fun e w' => e = .returned (.bool true) ∧ Below w.heap.size w w' := by
  have hx0 : a0 < 2 ^ 64 := by simpa [Lit.wf] using w0
  have hx1 : a1 < 2 ^ 64 := by simpa [Lit.wf] using w1
  have hm : 0 ≤ a2 := by
    have : IntKind.u8.min ≤ a2 ∧ a2 ≤ IntKind.u8.max := by simpa [Lit.wf] using w2
    exact this.1
  rcases Int.lt_or_le 7 a2 with h7 | h7
  · exact out0 a0 a1 a2 w h7
  cases i1 : (geB a0 bigM && leB a0 9094988921128908188) with
  | false => exact out1 a0 a1 a2 w h7 (Lib.hid i1)
  | true =>
  cases i2 : (geB a1 bigM && leB a1 9094988921128908188) with
  | false => exact out2 a0 a1 a2 w h7 (Lib.hid i1) (Lib.hid i2)
  | true =>
  cases hlt : ltB a0 a1 with
  | false => exact out3 a0 a1 a2 w h7 (Lib.hid i1) (Lib.hid i2) hlt
  | true =>
  obtain ⟨f0, l1, l2⟩ := in_fin hx0 i1
  obtain ⟨f1, h1, h2⟩ := in_fin hx1 i2
  have hv : val a0 < val a1 := by rw [ltB_ok f0 f1] at hlt; exact of_decide_eq_true hlt
  have hB := p2_1000
  rcases (by omega : a2 = 0 ∨ a2 = 1 ∨ a2 = 2 ∨ a2 = 3 ∨ a2 = 4 ∨ a2 = 5 ∨ a2 = 6 ∨ a2 = 7) with rfl | rfl | rfl | rfl | rfl | rfl | rfl | rfl
  · obtain ⟨h, wO, bO, x1, x2, hc, hq, k1, k2, k3, k4, k5⟩ := corner0 a0 a1 (p2 1000) hB.1 hB.2 f0 f1 l1 l2 h1 h2 hv
    exact main0 a0 a1 h wO bO x1 x2 w (Lib.hid i1) (Lib.hid i2) hlt hc hq k1 k2 k3 k4 k5
  · obtain ⟨h, wO, bO, x1, x2, hc, hq, k1, k2, k3, k4, k5⟩ := corner1 a0 a1 (p2 1000) hB.1 hB.2 f0 f1 l1 l2 h1 h2 hv
    exact main1 a0 a1 h wO bO x1 x2 w (Lib.hid i1) (Lib.hid i2) hlt hc hq k1 k2 k3 k4 k5
  · obtain ⟨h, wO, bO, x1, x2, hc, hq, k1, k2, k3, k4, k5⟩ := corner2 a0 a1 (p2 1000) hB.1 hB.2 f0 f1 l1 l2 h1 h2 hv
    exact main2 a0 a1 h wO bO x1 x2 w (Lib.hid i1) (Lib.hid i2) hlt hc hq k1 k2 k3 k4 k5
  · obtain ⟨h, wO, bO, x1, x2, hc, hq, k1, k2, k3, k4, k5⟩ := corner3 a0 a1 (p2 1000) hB.1 hB.2 f0 f1 l1 l2 h1 h2 hv
    exact main3 a0 a1 h wO bO x1 x2 w (Lib.hid i1) (Lib.hid i2) hlt hc hq k1 k2 k3 k4 k5
  · obtain ⟨h, wO, bO, x1, x2, hc, hq, k1, k2, k3, k4, k5⟩ := corner4 a0 a1 (p2 1000) hB.1 hB.2 f0 f1 l1 l2 h1 h2 hv
    exact main4 a0 a1 h wO bO x1 x2 w (Lib.hid i1) (Lib.hid i2) hlt hc hq k1 k2 k3 k4 k5
  · obtain ⟨h, wO, bO, x1, x2, hc, hq, k1, k2, k3, k4, k5⟩ := corner5 a0 a1 (p2 1000) hB.1 hB.2 f0 f1 l1 l2 h1 h2 hv
    exact main5 a0 a1 h wO bO x1 x2 w (Lib.hid i1) (Lib.hid i2) hlt hc hq k1 k2 k3 k4 k5
  · obtain ⟨h, wO, bO, x1, x2, hc, hq, k1, k2, k3, k4, k5⟩ := corner6 a0 a1 (p2 1000) hB.1 hB.2 f0 f1 l1 l2 h1 h2 hv
    exact main6 a0 a1 h wO bO x1 x2 w (Lib.hid i1) (Lib.hid i2) hlt hc hq k1 k2 k3 k4 k5
  · obtain ⟨h, wO, bO, x1, x2, hc, hq, k1, k2, k3, k4, k5⟩ := corner7 a0 a1 (p2 1000) hB.1 hB.2 f0 f1 l1 l2 h1 h2 hv
    exact main7 a0 a1 h wO bO x1 x2 w (Lib.hid i1) (Lib.hid i2) hlt hc hq k1 k2 k3 k4 k5

set_option maxRecDepth 100000 in
theorem lifted (os : Os) (started : os.Started) (H : Type) (enc : TypeId × Value → H) :
    ReturnsInHanded {} Try.checked os 8 .any (Rows.fnRgbToHwbTwoLevelCornerTableSpec.pre6 enc Try.prog Try.f8 Rows.fnRgbToHwbTwoLevelCornerTableRow.domain false) (Rows.fnRgbToHwbTwoLevelCornerTableSpec.post enc Try.prog Try.f8 false true false false) := by
  refine returnsInHanded_of_change (C := Try.checked) own started (by kernel_rfl) Try.func8
    (ChangeSpec.witness6 (enc := enc) (C := Try.checked) false ⟨#[], #[.float .f64 0, .float .f64 0, .int .u8 0], []⟩ 8 (by kernel_rfl) (by kernel_rfl) (by kernel_rfl) (by kernel_rfl)) ?_
  intro W base args ds gs before hval0 hW hcnd _
  have hval : ∀ (j : Nat) t v, Try.f8.params[j]? = some t → args[j]? = some v → Value.okWide Try.prog W .any base t v := hval0
  have hW' := hW
  obtain ⟨p, q, hA0, hV, rfl, hfz, hnd⟩ := hW
  have hA : DataW.TrodAll enc Try.prog W 0 (fun _ => true) true Try.f8.params.toList args.toList ds p := hA0
  rw [Try.params8] at hA hval
  obtain ⟨v0, vs0, d0, ds0, p0, q0, hargs, rfl, rfl, h0, r0⟩ := trodAll_cons hA
  obtain ⟨v1, vs1, d1, ds1, p1, q1, rfl, rfl, rfl, h1, r1⟩ := trodAll_cons r0
  obtain ⟨v2, vs2, d2, ds2, p2, q2, rfl, rfl, rfl, h2, r2⟩ := trodAll_cons r1
  obtain ⟨rfl, rfl, rfl⟩ := trodAll_nil r2
  obtain rfl : args = #[v0, v1, v2] := by cases args; simp_all
  obtain ⟨rfl, rfl⟩ := trodVars_none hV
  obtain ⟨a0, rfl, rfl, rfl, w0⟩ := open_float Try.underlying22 (hval 0 22 v0 rfl rfl) h0
  obtain ⟨a1, rfl, rfl, rfl, w1⟩ := open_float Try.underlying22 (hval 1 22 v1 rfl rfl) h1
  obtain ⟨a2, rfl, rfl, rfl, w2⟩ := open_int Try.underlying5 (hval 2 5 v2 rfl rfl) h2
  clear hA0 hval0
  refine (walk a0 a1 a2 W w0 w1 w2).mono fun e W' ⟨he, bel⟩ => ?_
  subst he
  exact ⟨_, rfl, _, _, _, [], _, [], hW', trodAll_mk1 (shut_bool Try.underlying4 _), (trodAll_cons_mk (shut_float Try.underlying22 w0) (trodAll_cons_mk (shut_float Try.underlying22 w1) (trodAll_cons_mk (shut_int Try.underlying5 w2) trodAll_mk0))), rfl, bel.frame _, fun h => by cases h⟩

theorem over : Rows.fnRgbToHwbTwoLevelCornerTableRow.holds Try.pinned (OpenSpec.ofChange Rows.fnRgbToHwbTwoLevelCornerTableSpec) :=
  OpenClaim.holds_of_wide 8 Try.f8 rfl rfl rfl rfl rfl rfl rfl ⟨rfl, rfl, rfl, rfl, rfl⟩ rfl rfl rfl rfl rfl (by kernel_rfl) Try.func8 (by kernel_rfl)
    (of_decide_eq_true (by kernel_rfl)) (by unfold Func.isWrapper; first | (rw [if_pos (by decide +kernel)]; kernel_rfl) | (rw [if_neg (by decide +kernel)]; exact ⟨rfl, rfl⟩))
    (fun os started H enc _ => lifted os started H enc)

/-- THE STATEMENT -/
theorem proved : Rows.FnRgbToHwbTwoLevelCornerTableSaid := over
#print axioms proved
end Go.Proofs.Ytafeeebgleecfaa.fnRgbToHwbTwoLevelCornerTable
