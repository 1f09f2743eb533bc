/-
  xyz_to_lab followed by lab_to_xyz gives back every XYZ triple within 1e-7 times one more than its greatest magnitude, for components within 1e9 (elsewhere the law asks nothing).
-/
import Derived.Test.YtafeeebgleecfaaRows
import Derived.WalkKit
import Derived.ProofKit
import Derived.OpenShut
import Derived.ShutString
import Derived.ChangeOld
import Derived.Below
import Derived.Lib.Hide
import Derived.Outline
import Derived.Laws.Cover2
import Derived.Laws.FloatArith
import Derived.Test.YtafeeebgleecfaaWs
import Derived.Test.YtafeeebgleecfaaRy
namespace Go.Proofs.Ytafeeebgleecfaa.fnXyzToLabRoundTrip
open Go.ChangeShapes Go.WideShapes Go.ChangeAt Go.RowKit
open Go.ChangeMaps (open_string shut_string)
set_option linter.unusedVariables false

theorem own : ownKnob Try.prog.godebug = none := by kernel_rfl
theorem laidOut : laidOutB Try.prog = true := by kernel_rfl

open Mat FL
set_option maxHeartbeats 400000 in
theorem zabs_any (x : Nat) (w : World) : Calls Try.prog 49 #[.float .f64 x] w fun e w' => e = .returned (.float .f64 (absW x)) ∧ w = w' := by
  have hn : ∀ w, (Op.unary .neg (.float .f64 x)).run Try.prog w = .ok (.float .f64 (FL.flip x)) w := fun w => rfl
  cases h : ltB x 0 with
  | true =>
    have q : (FloatKind.f64.format.order x 0 == some .lt) = true := h
    have e : absW x = FL.flip x := by unfold absW; rw [h]; rfl
    rw [e]
    clear h e
    go_enter Try.func49, Try.ntmps49
    go_wp2
    go_ret
    exact ⟨rfl, rfl⟩
  | false =>
    have q : (FloatKind.f64.format.order x 0 == some .lt) = false := h
    have e : absW x = x := by unfold absW; rw [h]; rfl
    rw [e]
    clear h e
    go_enter Try.func49, Try.ntmps49
    go_wp2
    go_ret
    exact ⟨rfl, rfl⟩
def bilM : Nat := FL.flip 4741671816366391296
set_option maxHeartbeats 400000 in
theorem zin_any (x : Nat) (w : World) : Calls Try.prog 19 #[.float .f64 x, .float .f64 4741671816366391296] w fun e w' => e = .returned (.bool (geB x bilM && leB x 4741671816366391296)) ∧ w = w' := by
  have hn : ∀ w, (Op.unary .neg (.float .f64 4741671816366391296)).run Try.prog w = .ok (.float .f64 bilM) w := fun w => rfl
  cases h1 : FloatKind.f64.format.order x bilM with
  | none =>
    have g : geB x bilM = false := by unfold geB; rw [show Ieee.double.order x bilM = none from h1]; rfl
    rw [g]
    generalize bilM = m at *
    go_enter Try.func19, Try.ntmps19
    go_wp2
    go_ret
    exact ⟨rfl, rfl⟩
  | some o =>
    cases o
    · have g : geB x bilM = false := by unfold geB; rw [show Ieee.double.order x bilM = some .lt from h1]; rfl
      rw [g]
      generalize bilM = m at *
      go_enter Try.func19, Try.ntmps19
      go_wp2
      go_ret
      exact ⟨rfl, rfl⟩
    · have g : geB x bilM = true := by unfold geB; rw [show Ieee.double.order x bilM = some .eq from h1]; rfl
      rw [g]
      generalize bilM = m at *
      go_enter Try.func19, Try.ntmps19
      go_wp2
      go_ret
      exact ⟨rfl, rfl⟩
    · have g : geB x bilM = true := by unfold geB; rw [show Ieee.double.order x bilM = some .gt from h1]; rfl
      rw [g]
      generalize bilM = m at *
      go_enter Try.func19, Try.ntmps19
      go_wp2
      go_ret
      exact ⟨rfl, rfl⟩
theorem zclose_any (a b : Nat) (fa : Finite a) (fb : Finite b) (tol : Nat) (ft : Finite tol) (M : Rat) (hM : 1 ≤ M) (hM2 : M ≤ 1000000001) (vt : 9 / 100000000 * M ≤ val tol) (h1 : -(7 / 100000000 * M) ≤ val a - val b) (h2 : val a - val b ≤ 7 / 100000000 * M) (w : World) : Calls Try.prog 23 #[.float .f64 a, .float .f64 b, .float .f64 tol] w fun e w' => e = .returned (.bool true) ∧ w = w' := by
  obtain ⟨b22, b23⟩ := big1022
  have hu : u = 1 / 9007199254740992 := rfl
  obtain ⟨d, e1, f1, r1⟩ := sub_ok a b fa fb (by grind) (by grind)
  have s1 := r1 (7 / 100000000 * M) (by grind) (by grind)
  rw [hu] at s1
  clear r1
  obtain ⟨fw, x1, x2, x3, x4⟩ := absW_ok f1
  have hle : leB (absW d) tol = true := by rw [leB_ok fw ft]; exact decide_eq_true (by rcases x4 with e | e <;> rw [e] <;> grind)
  have q : (FloatKind.f64.format.order (absW d) tol == some .lt || FloatKind.f64.format.order (absW d) tol == some .eq) = true := hle
  have m1 : ∀ w, (binOp .sub 22 (.float .f64 a) (.float .f64 b)).run Try.prog w = .ok (.float .f64 d) w := fun w => run_float_arith w .sub 22 .f64 _ _ _ e1
  have HA := fun w => zabs_any d w
  generalize absW d = ad at *
  have HA := Lib.hid HA
  clear b22 b23 hu s1 x1 x2 x3 x4 ft vt hle e1 f1 fw h1 h2 hM hM2 fa fb
  go_enter Try.func23, Try.ntmps23
  go_wp2_with (go_at_call 49; refine (HA.out _).mono ?_; rintro e w' ⟨rfl, rfl⟩)
  go_ret
  exact ⟨rfl, rfl⟩
def maxA (x y : Nat) : Nat := if gtB (absW y) x then absW y else x
def max3A (x y z : Nat) : Nat := maxA (maxA (absW x) y) z
set_option maxHeartbeats 1000000 in
theorem zmax_any (x y z : Nat) (w : World) : Calls Try.prog 22 #[.float .f64 x, .float .f64 y, .float .f64 z] w fun e w' => e = .returned (.float .f64 (max3A x y z)) ∧ w = w' := by
  unfold max3A
  have HX := Lib.hid (zabs_any x)
  have HY := Lib.hid (zabs_any y)
  have HZ := Lib.hid (zabs_any z)
  cases h1 : gtB (absW y) (absW x) with
  | true =>
    have e1 : maxA (absW x) y = absW y := by unfold maxA; rw [h1]; rfl
    rw [e1]
    have q1 : (FloatKind.f64.format.order (absW y) (absW x) == some .gt) = true := h1
    cases h2 : gtB (absW z) (absW y) with
    | true =>
      have e2 : maxA (absW y) z = absW z := by unfold maxA; rw [h2]; rfl
      rw [e2]
      have q2 : (FloatKind.f64.format.order (absW z) (absW y) == some .gt) = true := h2
      clear h1 h2 e1 e2
      generalize absW x = ax at *
      generalize absW y = ay at *
      generalize absW z = az at *
      go_enter Try.func22, Try.ntmps22
      go_wp2_with fail
      refine (HX.out _).mono ?_
      rintro e w' ⟨rfl, rfl⟩
      go_wp2_with fail
      refine (HY.out _).mono ?_
      rintro e w' ⟨rfl, rfl⟩
      go_wp2_with fail
      refine (HY.out _).mono ?_
      rintro e w' ⟨rfl, rfl⟩
      go_wp2_with fail
      refine (HZ.out _).mono ?_
      rintro e w' ⟨rfl, rfl⟩
      go_wp2_with fail
      refine (HZ.out _).mono ?_
      rintro e w' ⟨rfl, rfl⟩
      go_wp2
      go_ret
      exact ⟨rfl, rfl⟩
    | false =>
      have e2 : maxA (absW y) z = absW y := by unfold maxA; rw [h2]; rfl
      rw [e2]
      have q2 : (FloatKind.f64.format.order (absW z) (absW y) == some .gt) = false := h2
      clear h1 h2 e1 e2
      generalize absW x = ax at *
      generalize absW y = ay at *
      generalize absW z = az at *
      go_enter Try.func22, Try.ntmps22
      go_wp2_with fail
      refine (HX.out _).mono ?_
      rintro e w' ⟨rfl, rfl⟩
      go_wp2_with fail
      refine (HY.out _).mono ?_
      rintro e w' ⟨rfl, rfl⟩
      go_wp2_with fail
      refine (HY.out _).mono ?_
      rintro e w' ⟨rfl, rfl⟩
      go_wp2_with fail
      refine (HZ.out _).mono ?_
      rintro e w' ⟨rfl, rfl⟩
      go_wp2
      go_ret
      exact ⟨rfl, rfl⟩
  | false =>
    have e1 : maxA (absW x) y = absW x := by unfold maxA; rw [h1]; rfl
    rw [e1]
    have q1 : (FloatKind.f64.format.order (absW y) (absW x) == some .gt) = false := h1
    cases h2 : gtB (absW z) (absW x) with
    | true =>
      have e2 : maxA (absW x) z = absW z := by unfold maxA; rw [h2]; rfl
      rw [e2]
      have q2 : (FloatKind.f64.format.order (absW z) (absW x) == some .gt) = true := h2
      clear h1 h2 e1 e2
      generalize absW x = ax at *
      generalize absW y = ay at *
      generalize absW z = az at *
      go_enter Try.func22, Try.ntmps22
      go_wp2_with fail
      refine (HX.out _).mono ?_
      rintro e w' ⟨rfl, rfl⟩
      go_wp2_with fail
      refine (HY.out _).mono ?_
      rintro e w' ⟨rfl, rfl⟩
      go_wp2_with fail
      refine (HZ.out _).mono ?_
      rintro e w' ⟨rfl, rfl⟩
      go_wp2_with fail
      refine (HZ.out _).mono ?_
      rintro e w' ⟨rfl, rfl⟩
      go_wp2
      go_ret
      exact ⟨rfl, rfl⟩
    | false =>
      have e2 : maxA (absW x) z = absW x := by unfold maxA; rw [h2]; rfl
      rw [e2]
      have q2 : (FloatKind.f64.format.order (absW z) (absW x) == some .gt) = false := h2
      clear h1 h2 e1 e2
      generalize absW x = ax at *
      generalize absW y = ay at *
      generalize absW z = az at *
      go_enter Try.func22, Try.ntmps22
      go_wp2_with fail
      refine (HX.out _).mono ?_
      rintro e w' ⟨rfl, rfl⟩
      go_wp2_with fail
      refine (HY.out _).mono ?_
      rintro e w' ⟨rfl, rfl⟩
      go_wp2_with fail
      refine (HZ.out _).mono ?_
      rintro e w' ⟨rfl, rfl⟩
      go_wp2
      go_ret
      exact ⟨rfl, rfl⟩
theorem maxA_ok {x y : Nat} (fx : Finite x) (fy : Finite y) : Finite (maxA x y) ∧ val x ≤ val (maxA x y) ∧ val (absW y) ≤ val (maxA x y) ∧ (val (maxA x y) = val x ∨ val (maxA x y) = val (absW y)) := by
  obtain ⟨fa, -⟩ := absW_ok fy
  unfold maxA
  rw [gtB_ok fa fx]
  by_cases h : val x < val (absW y)
  · rw [decide_eq_true h, if_pos rfl]; exact ⟨fa, by grind, by grind, .inr rfl⟩
  · rw [decide_eq_false h, if_neg (by decide)]; exact ⟨fx, by grind, by grind, .inl rfl⟩
set_option maxRecDepth 100000 in
set_option maxHeartbeats 1000000 in
theorem out1 (r g b : Nat) (w : World) (i1 : Hid ((geB r bilM && leB r 4741671816366391296) = false)) : Calls Try.prog 5 #[.float .f64 r, .float .f64 g, .float .f64 b] w fun e w' => e = .returned (.bool true) ∧ Below w.heap.size w w' := by
  go_enter Try.func5, Try.ntmps5
  go_wp2_with fail
  refine (zin_any _ _).mono ?_
  rintro e w' ⟨rfl, rfl⟩
  rw [i1.out]
  go_wp2
  go_ret
  exact ⟨rfl, Below.refl _ _⟩
set_option maxRecDepth 100000 in
set_option maxHeartbeats 1000000 in
theorem out2 (r g b : Nat) (w : World) (i1 : Hid ((geB r bilM && leB r 4741671816366391296) = true)) (i2 : Hid ((geB g bilM && leB g 4741671816366391296) = false)) : Calls Try.prog 5 #[.float .f64 r, .float .f64 g, .float .f64 b] w fun e w' => e = .returned (.bool true) ∧ Below w.heap.size w w' := by
  go_enter Try.func5, Try.ntmps5
  go_wp2_with fail
  refine (zin_any _ _).mono ?_
  rintro e w' ⟨rfl, rfl⟩
  rw [i1.out]
  go_wp2_with fail
  refine (zin_any _ _).mono ?_
  rintro e w' ⟨rfl, rfl⟩
  rw [i2.out]
  go_wp2
  go_ret
  exact ⟨rfl, Below.refl _ _⟩
set_option maxRecDepth 100000 in
set_option maxHeartbeats 1000000 in
theorem out3 (r g b : Nat) (w : World) (i1 : Hid ((geB r bilM && leB r 4741671816366391296) = true)) (i2 : Hid ((geB g bilM && leB g 4741671816366391296) = true)) (i3 : Hid ((geB b bilM && leB b 4741671816366391296) = false)) : Calls Try.prog 5 #[.float .f64 r, .float .f64 g, .float .f64 b] w fun e w' => e = .returned (.bool true) ∧ Below w.heap.size w w' := by
  go_enter Try.func5, Try.ntmps5
  go_wp2_with fail
  refine (zin_any _ _).mono ?_
  rintro e w' ⟨rfl, rfl⟩
  rw [i1.out]
  go_wp2_with fail
  refine (zin_any _ _).mono ?_
  rintro e w' ⟨rfl, rfl⟩
  rw [i2.out]
  go_wp2_with fail
  refine (zin_any _ _).mono ?_
  rintro e w' ⟨rfl, rfl⟩
  rw [i3.out]
  go_wp2
  go_ret
  exact ⟨rfl, Below.refl _ _⟩
set_option maxRecDepth 100000 in
set_option maxHeartbeats 4000000 in
theorem main (r g b h s l z0 z1 z2 mx s1 tol : Nat) (w : World) (i1 : Hid ((geB r bilM && leB r 4741671816366391296) = true)) (i2 : Hid ((geB g bilM && leB g 4741671816366391296) = true)) (i3 : Hid ((geB b bilM && leB b 4741671816366391296) = true)) (H1 : Hid (∀ w, Calls Try.prog 20 #[.float .f64 r, .float .f64 g, .float .f64 b] w fun e w' => e = .returned (.tuple #[.float .f64 h, .float .f64 s, .float .f64 l]) ∧ Below w.heap.size w w')) (H2 : Hid (∀ w, Calls Try.prog 21 #[.float .f64 h, .float .f64 s, .float .f64 l] w fun e w' => e = .returned (.tuple #[.float .f64 z0, .float .f64 z1, .float .f64 z2]) ∧ Below w.heap.size w w')) (HM : Hid (∀ w, Calls Try.prog 22 #[.float .f64 r, .float .f64 g, .float .f64 b] w fun e w' => e = .returned (.float .f64 mx) ∧ w = w')) (k1 : Ieee.double.add mx 4607182418800017408 = some s1) (k2 : Ieee.double.mul 4502148214488346440 s1 = some tol)
    (C0 : Hid (∀ w, Calls Try.prog 23 #[.float .f64 z0, .float .f64 r, .float .f64 tol] w fun e w' => e = .returned (.bool true) ∧ w = w')) (C1 : Hid (∀ w, Calls Try.prog 23 #[.float .f64 z1, .float .f64 g, .float .f64 tol] w fun e w' => e = .returned (.bool true) ∧ w = w')) (C2 : Hid (∀ w, Calls Try.prog 23 #[.float .f64 z2, .float .f64 b, .float .f64 tol] w fun e w' => e = .returned (.bool true) ∧ w = w')) : Calls Try.prog 5 #[.float .f64 r, .float .f64 g, .float .f64 b] w fun e w' => e = .returned (.bool true) ∧ Below w.heap.size w w' := by
  have m1 : ∀ w, (binOp .add 22 (.float .f64 mx) (.float .f64 4607182418800017408)).run Try.prog w = .ok (.float .f64 s1) w := fun w => run_float_arith w .add 22 .f64 _ _ _ k1
  have m2 : ∀ w, (binOp .mul 22 (.float .f64 4502148214488346440) (.float .f64 s1)).run Try.prog w = .ok (.float .f64 tol) w := fun w => run_float_arith w .mul 22 .f64 _ _ _ k2
  clear k1 k2
  go_enter Try.func5, Try.ntmps5
  go_wp2_with fail
  refine (zin_any _ _).mono ?_
  rintro e w' ⟨rfl, rfl⟩
  rw [i1.out]
  go_wp2_with fail
  refine (zin_any _ _).mono ?_
  rintro e w' ⟨rfl, rfl⟩
  rw [i2.out]
  go_wp2_with fail
  refine (zin_any _ _).mono ?_
  rintro e w' ⟨rfl, rfl⟩
  rw [i3.out]
  go_wp2_with fail
  refine (H1.out _).mono ?_
  rintro e w1 ⟨rfl, b1⟩
  have B1 := Lib.hid b1
  clear b1
  go_wp2_with fail
  refine (H2.out _).mono ?_
  rintro e w2 ⟨rfl, b2⟩
  have B2 := Lib.hid (B1.out.trans (b2.mono B1.out.size))
  clear b2 B1
  go_wp2_with fail
  refine (HM.out _).mono ?_
  rintro e w' ⟨rfl, rfl⟩
  go_wp2_with fail
  refine (C0.out _).mono ?_
  rintro e w' ⟨rfl, rfl⟩
  go_wp2_with fail
  refine (C1.out _).mono ?_
  rintro e w' ⟨rfl, rfl⟩
  go_wp2_with fail
  refine (C2.out _).mono ?_
  rintro e w' ⟨rfl, rfl⟩
  go_wp2
  go_ret
  exact ⟨rfl, B2.out⟩
theorem kIn : Finite 4741671816366391296 ∧ val 4741671816366391296 = 1000000000 := by refine ⟨?_, ?_⟩ <;> decide +kernel
theorem kOne' : Finite 4607182418800017408 ∧ val 4607182418800017408 = 1 := by constructor <;> decide +kernel
theorem kTol : Finite 4502148214488346440 ∧ 95 / 1000000000 ≤ val 4502148214488346440 ∧ val 4502148214488346440 ≤ 11 / 100000000 := by refine ⟨?_, ?_, ?_⟩ <;> decide +kernel
theorem in_ok {x : Nat} (hx : x < 2 ^ 64) (h : (geB x bilM && leB x 4741671816366391296) = true) : Finite x ∧ -1000000000 ≤ val x ∧ val x ≤ 1000000000 := by
  obtain ⟨f2, v2⟩ := kIn
  have f1 : Finite bilM := flip_fin _ f2
  have v1 : val bilM = -val 4741671816366391296 := flip_val _ f2.1
  simp only [Bool.and_eq_true] at h
  obtain ⟨f, a, b⟩ := finite_between hx f1 f2 h.1 h.2
  rw [v1, v2] at a
  rw [v2] at b
  exact ⟨f, by grind, b⟩
theorem tol_ok (m : Nat) (fm : Finite m) (m0 : 0 ≤ val m) (m1 : val m ≤ 1000000000) : ∃ s1 tol, Ieee.double.add m 4607182418800017408 = some s1 ∧ Ieee.double.mul 4502148214488346440 s1 = some tol ∧ Finite tol ∧ 9 / 100000000 * (val m + 1) ≤ val tol := by
  obtain ⟨b22, b23⟩ := big1022
  have hu : u = 1 / 9007199254740992 := rfl
  have he := eta_nano
  have he0 := eta_pos
  obtain ⟨fo, vo⟩ := kOne'
  obtain ⟨ft, t1, t2⟩ := kTol
  obtain ⟨s, e1, fs, r1⟩ := add_ok m 4607182418800017408 fm fo (by rw [vo]; grind) (by rw [vo]; grind)
  rw [vo] at r1
  have a1 := r1 (val m + 1) (by grind) (by grind)
  clear r1
  rw [hu] at a1
  have k1 := Rat.mul_le_mul_of_nonneg_right t1 (show 0 ≤ val s by grind)
  have k2 := Rat.mul_le_mul_of_nonneg_right t2 (show 0 ≤ val s by grind)
  obtain ⟨tol, e2, fT, r2⟩ := mul_ok 4502148214488346440 s ft fs (by grind) (by grind)
  have a2 := r2 (11 / 100000000 * val s) (by grind) (by grind)
  clear r2
  rw [hu] at a2
  exact ⟨s, tol, e1, e2, fT, by grind⟩

set_option maxRecDepth 100000 in
set_option maxHeartbeats 4000000 in
/-- THE WALK -/
theorem walk (a0 : Nat) (a1 : Nat) (a2 : Nat) (w : World) (w0 : (Lit.float .f64 a0).wf = true) (w1 : (Lit.float .f64 a1).wf = true) (w2 : (Lit.float .f64 a2).wf = true) :
    Calls Try.prog 5 #[.float .f64 a0, .float .f64 a1, .float .f64 a2] w fun e w' => e = .returned (.bool true) ∧ Below w.heap.size w w' := by
  have hx0 : a0 < 2 ^ 64 := by simpa [Lit.wf] using w0
  have hx1 : a1 < 2 ^ 64 := by simpa [Lit.wf] using w1
  have hx2 : a2 < 2 ^ 64 := by simpa [Lit.wf] using w2
  cases i1 : (geB a0 bilM && leB a0 4741671816366391296) with
  | false => exact out1 a0 a1 a2 w (Lib.hid i1)
  | true =>
  cases i2 : (geB a1 bilM && leB a1 4741671816366391296) with
  | false => exact out2 a0 a1 a2 w (Lib.hid i1) (Lib.hid i2)
  | true =>
  cases i3 : (geB a2 bilM && leB a2 4741671816366391296) with
  | false => exact out3 a0 a1 a2 w (Lib.hid i1) (Lib.hid i2) (Lib.hid i3)
  | true =>
  obtain ⟨f0, r1, r2⟩ := in_ok hx0 i1
  obtain ⟨f1, g1, g2⟩ := in_ok hx1 i2
  obtain ⟨f2, b1, b2⟩ := in_ok hx2 i3
  obtain ⟨q0, q1, q2, q3, q4⟩ := absW_ok f0
  obtain ⟨t0, t1, t2, t3, t4⟩ := absW_ok f1
  obtain ⟨u0, u1, u2, u3, u4⟩ := absW_ok f2
  obtain ⟨v0, v1, v2, v3⟩ := maxA_ok q0 f1
  obtain ⟨y0, y1, y2, y3⟩ := maxA_ok v0 f2
  obtain ⟨m, hm⟩ : ∃ m, m = max3A a0 a1 a2 := ⟨_, rfl⟩
  have y0 : Finite m := by rw [hm]; exact y0
  have y1 : val (maxA (absW a0) a1) ≤ val m := by rw [hm]; exact y1
  have y2 : val (absW a2) ≤ val m := by rw [hm]; exact y2
  have y3 : val m = val (maxA (absW a0) a1) ∨ val m = val (absW a2) := by rw [hm]; exact y3
  obtain ⟨s1, tol, k1, k2, fT, vT⟩ := tol_ok m y0 (by grind) (by grind)
  obtain ⟨L, A, B, X, Y, Z, H1, H2, n0, n1, n2, ⟨p0, p1⟩, ⟨p2, p3⟩, ⟨p4, p5⟩⟩ := round14 a0 a1 a2 f0 f1 f2 (val m + 1) (by grind) (by grind) (by grind) (by grind) (by grind) (by grind) (by grind) (by grind)
  have hM : 1 ≤ val m + 1 := by grind
  have hM2 : val m + 1 ≤ 1000000001 := by grind
  have HM : ∀ w, Calls Try.prog 22 #[.float .f64 a0, .float .f64 a1, .float .f64 a2] w fun e w' => e = .returned (.float .f64 m) ∧ w = w' := fun w => by rw [hm]; exact zmax_any a0 a1 a2 w
  exact main a0 a1 a2 L A B X Y Z m s1 tol w (Lib.hid i1) (Lib.hid i2) (Lib.hid i3) (Lib.hid (ZZxyzToLab_n011_70_any a0 a1 a2 L A B H1)) (Lib.hid (ZZlabToXyz_n011_70_any L A B X Y Z H2)) (Lib.hid HM) k1 k2 (Lib.hid (zclose_any X a0 n0 f0 tol fT _ hM hM2 vT p0 p1)) (Lib.hid (zclose_any Y a1 n1 f1 tol fT _ hM hM2 vT p2 p3)) (Lib.hid (zclose_any Z a2 n2 f2 tol fT _ hM hM2 vT p4 p5))

set_option maxRecDepth 100000 in
theorem lifted (os : Os) (started : os.Started) (H : Type) (enc : TypeId × Value → H) :
    ReturnsInHanded {} Try.checked os 5 .any (Rows.fnXyzToLabRoundTripSpec.pre6 enc Try.prog Try.f5 Rows.fnXyzToLabRoundTripRow.domain false) (Rows.fnXyzToLabRoundTripSpec.post enc Try.prog Try.f5 false true false false) := by
  refine returnsInHanded_of_change (C := Try.checked) own started (by kernel_rfl) Try.func5
    (ChangeSpec.witness6 (enc := enc) (C := Try.checked) false ⟨#[], #[.float .f64 0, .float .f64 0, .float .f64 0], []⟩ 8 (by kernel_rfl) (by kernel_rfl) (by kernel_rfl) (by kernel_rfl)) ?_
  intro W base args ds gs before hval0 hW hcnd _
  have hval : ∀ (j : Nat) t v, Try.f5.params[j]? = some t → args[j]? = some v → Value.okWide Try.prog W .any base t v := hval0
  have hW' := hW
  obtain ⟨p, q, hA0, hV, rfl, hfz, hnd⟩ := hW
  have hA : DataW.TrodAll enc Try.prog W 0 (fun _ => true) true Try.f5.params.toList args.toList ds p := hA0
  rw [Try.params5] at hA hval
  obtain ⟨v0, vs0, d0, ds0, p0, q0, hargs, rfl, rfl, h0, r0⟩ := trodAll_cons hA
  obtain ⟨v1, vs1, d1, ds1, p1, q1, rfl, rfl, rfl, h1, r1⟩ := trodAll_cons r0
  obtain ⟨v2, vs2, d2, ds2, p2, q2, rfl, rfl, rfl, h2, r2⟩ := trodAll_cons r1
  obtain ⟨rfl, rfl, rfl⟩ := trodAll_nil r2
  obtain rfl : args = #[v0, v1, v2] := by cases args; simp_all
  obtain ⟨rfl, rfl⟩ := trodVars_none hV
  obtain ⟨a0, rfl, rfl, rfl, w0⟩ := open_float Try.underlying22 (hval 0 22 v0 rfl rfl) h0
  obtain ⟨a1, rfl, rfl, rfl, w1⟩ := open_float Try.underlying22 (hval 1 22 v1 rfl rfl) h1
  obtain ⟨a2, rfl, rfl, rfl, w2⟩ := open_float Try.underlying22 (hval 2 22 v2 rfl rfl) h2
  clear hA0 hval0
  refine (walk a0 a1 a2 W w0 w1 w2).mono fun e W' ⟨he, bel⟩ => ?_
  subst he
  exact ⟨_, rfl, _, _, _, [], _, [], hW', trodAll_mk1 (shut_bool Try.underlying4 _), (trodAll_cons_mk (shut_float Try.underlying22 w0) (trodAll_cons_mk (shut_float Try.underlying22 w1) (trodAll_cons_mk (shut_float Try.underlying22 w2) trodAll_mk0))), rfl, bel.frame _, fun h => by cases h⟩

theorem over : Rows.fnXyzToLabRoundTripRow.holds Try.pinned (OpenSpec.ofChange Rows.fnXyzToLabRoundTripSpec) :=
  OpenClaim.holds_of_wide 5 Try.f5 rfl rfl rfl rfl rfl rfl rfl ⟨rfl, rfl, rfl, rfl, rfl⟩ rfl rfl rfl rfl rfl (by kernel_rfl) Try.func5 (by kernel_rfl)
    (of_decide_eq_true (by kernel_rfl)) (by unfold Func.isWrapper; first | (rw [if_pos (by decide +kernel)]; kernel_rfl) | (rw [if_neg (by decide +kernel)]; exact ⟨rfl, rfl⟩))
    (fun os started H enc _ => lifted os started H enc)

/-- THE STATEMENT -/
theorem proved : Rows.FnXyzToLabRoundTripSaid := over
#print axioms proved
end Go.Proofs.Ytafeeebgleecfaa.fnXyzToLabRoundTrip
