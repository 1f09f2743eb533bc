/-
  math.atan, Atan, atan2 and Atan2 by their contracts.
-/
import Derived.Test.YtafeeebgleecfaaAt
import Derived.Test.YtafeeebgleecfaaFq
namespace Go.Proofs.Ytafeeebgleecfaa.Mat
open Go.ChangeShapes Go.WideShapes Go.ChangeAt Go.RowKit
open FL
open Go.Proofs.Ytafeeebgleecfaa.Fx (IsNaN_fin IsInf0_fin Signbit_any Copysign_any negB)
set_option linter.unusedVariables false
set_option maxHeartbeats 400000 in
theorem atan_pos (x y : Nat) (hs : ∀ w, Calls Try.prog 115 #[.float .f64 x] w fun e w' => e = .returned (.float .f64 y) ∧ w = w') (h1 : eqB x 0 = false) (h2 : gtB x 0 = true) (w : World) : Calls Try.prog 114 #[.float .f64 x] w fun e w' => e = .returned (.float .f64 y) ∧ w = w' := by
  have q1 : (FloatKind.f64.format.order x 0 == some .eq) = false := h1
  have q2 : (FloatKind.f64.format.order x 0 == some .gt) = true := h2
  have HS := Lib.hid hs
  clear hs h1 h2
  go_enter Try.func114, Try.ntmps114
  go_wp2_with (go_at_call 115; refine (HS.out _).mono ?_; rintro e w' ⟨rfl, rfl⟩)
  go_ret
  exact ⟨rfl, rfl⟩
set_option maxHeartbeats 400000 in
theorem atan_neg (x y : Nat) (hs : ∀ w, Calls Try.prog 115 #[.float .f64 (FL.flip x)] w fun e w' => e = .returned (.float .f64 y) ∧ w = w') (h1 : eqB x 0 = false) (h2 : gtB x 0 = false) (w : World) : Calls Try.prog 114 #[.float .f64 x] w fun e w' => e = .returned (.float .f64 (FL.flip y)) ∧ w = w' := by
  have q1 : (FloatKind.f64.format.order x 0 == some .eq) = false := h1
  have q2 : (FloatKind.f64.format.order x 0 == some .gt) = false := h2
  have n1 : ∀ w, (Op.unary .neg (.float .f64 x)).run Try.prog w = .ok (.float .f64 (FL.flip x)) w := fun w => rfl
  have n2 : ∀ w, (Op.unary .neg (.float .f64 y)).run Try.prog w = .ok (.float .f64 (FL.flip y)) w := fun w => rfl
  generalize FL.flip y = ny at *
  generalize FL.flip x = nx at *
  have HS := Lib.hid hs
  clear hs h1 h2
  go_enter Try.func114, Try.ntmps114
  go_wp2_with (go_at_call 115; refine (HS.out _).mono ?_; rintro e w' ⟨rfl, rfl⟩)
  go_ret
  exact ⟨rfl, rfl⟩
set_option maxHeartbeats 400000 in
theorem Atan_any (x y : Nat) (hs : ∀ w, Calls Try.prog 114 #[.float .f64 x] w fun e w' => e = .returned (.float .f64 y) ∧ w = w') (w : World) : Calls Try.prog 110 #[.float .f64 x] w fun e w' => e = .returned (.float .f64 y) ∧ w = w' := by
  have HS := Lib.hid hs
  clear hs
  go_enter Try.func110, Try.ntmps110
  go_wp2_with (go_at_call 114; refine (HS.out _).mono ?_; rintro e w' ⟨rfl, rfl⟩)
  go_ret
  exact ⟨rfl, rfl⟩
/-- an angle of a quotient -/
theorem Atan_quad (x : Nat) (fx : Finite x) (h : p2 (-800) ≤ val (mag x)) (h' : val (mag x) ≤ p2 800) : ∃ y r, (∀ w, Calls Try.prog 110 #[.float .f64 x] w fun e w' => e = .returned (.float .f64 r) ∧ w = w') ∧ Quad y ∧ Finite r ∧ ((0 < val x ∧ val r = val y) ∨ (val x < 0 ∧ val r = -val y)) := by
  have hp := p2_pos (-800)
  have e0 := eqB_ok fx fin_zero
  have g0 := gtB_ok fx fin_zero
  rw [val_zero] at e0 g0
  rcases (mag_bounds x fx.1).2.2.2 with e | e
  · have hx : 0 < val x := by grind
    obtain ⟨y, hy, hq⟩ := sat_any x fx (by grind) (by grind)
    rw [decide_eq_false (by grind)] at e0
    rw [decide_eq_true hx] at g0
    exact ⟨y, y, Atan_any x y (atan_pos x y hy e0 g0), hq, hq.1, .inl ⟨hx, rfl⟩⟩
  · have hx : val x < 0 := by grind
    obtain ⟨y, hy, hq⟩ := sat_any (FL.flip x) (flip_fin x fx) (by rw [flip_val x fx.1]; grind) (by rw [flip_val x fx.1]; grind)
    rw [decide_eq_false (by grind)] at e0
    rw [decide_eq_false (by grind)] at g0
    exact ⟨y, FL.flip y, Atan_any x _ (atan_neg x y hy e0 g0), hq, flip_fin y hq.1, .inr ⟨hx, flip_val y hq.1.1⟩⟩
set_option maxRecDepth 100000 in
set_option maxHeartbeats 1000000 in
theorem at2_pos (y x : Nat) (fy : Finite y) (fx : Finite x) (q at_ : Nat) (h1 : eqB y 0 = false) (h2 : eqB x 0 = false) (hq : Ieee.double.div y x = some q) (ha : ∀ w, Calls Try.prog 110 #[.float .f64 q] w fun e w' => e = .returned (.float .f64 at_) ∧ w = w') (h3 : ltB x 0 = false) (w : World) : Calls Try.prog 105 #[.float .f64 y, .float .f64 x] w fun e w' => e = .returned (.float .f64 at_) ∧ w = w' := by
  have q1 : (FloatKind.f64.format.order y 0 == some .eq) = false := h1
  have q2 : (FloatKind.f64.format.order x 0 == some .eq) = false := h2
  have m1 : ∀ w, (binOp .quo 22 (.float .f64 y) (.float .f64 x)).run Try.prog w = .ok (.float .f64 q) w := fun w => run_float_arith w .quo 22 .f64 _ _ _ hq
  have HA := Lib.hid ha
  have q3 : (FloatKind.f64.format.order x 0 == some .lt) = false := h3
  have HF := Lib.hid (And.intro fy fx)
  clear fy fx h1 h2 h3 hq ha
  go_enter Try.func105, Try.ntmps105
  go_wp2_with fail
  refine (IsNaN_fin y _ (.inl HF.out.1)).mono ?_
  rintro e w' ⟨rfl, rfl⟩
  go_wp2_with fail
  refine (IsNaN_fin x _ (.inl HF.out.2)).mono ?_
  rintro e w' ⟨rfl, rfl⟩
  go_wp2_with fail
  refine (IsInf0_fin x _ HF.out.2).mono ?_
  rintro e w' ⟨rfl, rfl⟩
  go_wp2_with fail
  refine (IsInf0_fin y _ HF.out.1).mono ?_
  rintro e w' ⟨rfl, rfl⟩
  go_wp2_with fail
  refine (HA.out _).mono ?_
  rintro e w' ⟨rfl, rfl⟩
  go_wp2
  go_ret
  exact ⟨rfl, rfl⟩
set_option maxRecDepth 100000 in
set_option maxHeartbeats 1000000 in
theorem at2_np (y x : Nat) (fy : Finite y) (fx : Finite x) (q at_ : Nat) (h1 : eqB y 0 = false) (h2 : eqB x 0 = false) (hq : Ieee.double.div y x = some q) (ha : ∀ w, Calls Try.prog 110 #[.float .f64 q] w fun e w' => e = .returned (.float .f64 at_) ∧ w = w') (r : Nat) (h3 : ltB x 0 = true) (h4 : leB at_ 0 = true) (hr : Ieee.double.add at_ 4614256656552045848 = some r) (w : World) : Calls Try.prog 105 #[.float .f64 y, .float .f64 x] w fun e w' => e = .returned (.float .f64 r) ∧ w = w' := by
  have q1 : (FloatKind.f64.format.order y 0 == some .eq) = false := h1
  have q2 : (FloatKind.f64.format.order x 0 == some .eq) = false := h2
  have m1 : ∀ w, (binOp .quo 22 (.float .f64 y) (.float .f64 x)).run Try.prog w = .ok (.float .f64 q) w := fun w => run_float_arith w .quo 22 .f64 _ _ _ hq
  have HA := Lib.hid ha
  have q3 : (FloatKind.f64.format.order x 0 == some .lt) = true := h3
  have q4 : (FloatKind.f64.format.order at_ 0 == some .lt || FloatKind.f64.format.order at_ 0 == some .eq) = true := h4
  have m2 : ∀ w, (binOp .add 22 (.float .f64 at_) (.float .f64 4614256656552045848)).run Try.prog w = .ok (.float .f64 r) w := fun w => run_float_arith w .add 22 .f64 _ _ _ hr
  have HF := Lib.hid (And.intro fy fx)
  clear fy fx h1 h2 h3 h4 hq ha hr
  go_enter Try.func105, Try.ntmps105
  go_wp2_with fail
  refine (IsNaN_fin y _ (.inl HF.out.1)).mono ?_
  rintro e w' ⟨rfl, rfl⟩
  go_wp2_with fail
  refine (IsNaN_fin x _ (.inl HF.out.2)).mono ?_
  rintro e w' ⟨rfl, rfl⟩
  go_wp2_with fail
  refine (IsInf0_fin x _ HF.out.2).mono ?_
  rintro e w' ⟨rfl, rfl⟩
  go_wp2_with fail
  refine (IsInf0_fin y _ HF.out.1).mono ?_
  rintro e w' ⟨rfl, rfl⟩
  go_wp2_with fail
  refine (HA.out _).mono ?_
  rintro e w' ⟨rfl, rfl⟩
  go_wp2
  go_ret
  exact ⟨rfl, rfl⟩
set_option maxRecDepth 100000 in
set_option maxHeartbeats 1000000 in
theorem at2_nn (y x : Nat) (fy : Finite y) (fx : Finite x) (q at_ : Nat) (h1 : eqB y 0 = false) (h2 : eqB x 0 = false) (hq : Ieee.double.div y x = some q) (ha : ∀ w, Calls Try.prog 110 #[.float .f64 q] w fun e w' => e = .returned (.float .f64 at_) ∧ w = w') (r : Nat) (h3 : ltB x 0 = true) (h4 : leB at_ 0 = false) (hr : Ieee.double.sub at_ 4614256656552045848 = some r) (w : World) : Calls Try.prog 105 #[.float .f64 y, .float .f64 x] w fun e w' => e = .returned (.float .f64 r) ∧ w = w' := by
  have q1 : (FloatKind.f64.format.order y 0 == some .eq) = false := h1
  have q2 : (FloatKind.f64.format.order x 0 == some .eq) = false := h2
  have m1 : ∀ w, (binOp .quo 22 (.float .f64 y) (.float .f64 x)).run Try.prog w = .ok (.float .f64 q) w := fun w => run_float_arith w .quo 22 .f64 _ _ _ hq
  have HA := Lib.hid ha
  have q3 : (FloatKind.f64.format.order x 0 == some .lt) = true := h3
  have q4 : (FloatKind.f64.format.order at_ 0 == some .lt || FloatKind.f64.format.order at_ 0 == some .eq) = false := h4
  have m2 : ∀ w, (binOp .sub 22 (.float .f64 at_) (.float .f64 4614256656552045848)).run Try.prog w = .ok (.float .f64 r) w := fun w => run_float_arith w .sub 22 .f64 _ _ _ hr
  have HF := Lib.hid (And.intro fy fx)
  clear fy fx h1 h2 h3 h4 hq ha hr
  go_enter Try.func105, Try.ntmps105
  go_wp2_with fail
  refine (IsNaN_fin y _ (.inl HF.out.1)).mono ?_
  rintro e w' ⟨rfl, rfl⟩
  go_wp2_with fail
  refine (IsNaN_fin x _ (.inl HF.out.2)).mono ?_
  rintro e w' ⟨rfl, rfl⟩
  go_wp2_with fail
  refine (IsInf0_fin x _ HF.out.2).mono ?_
  rintro e w' ⟨rfl, rfl⟩
  go_wp2_with fail
  refine (IsInf0_fin y _ HF.out.1).mono ?_
  rintro e w' ⟨rfl, rfl⟩
  go_wp2_with fail
  refine (HA.out _).mono ?_
  rintro e w' ⟨rfl, rfl⟩
  go_wp2
  go_ret
  exact ⟨rfl, rfl⟩
set_option maxRecDepth 100000 in
set_option maxHeartbeats 1000000 in
theorem at2_y0p (y x : Nat) (fy : Finite y) (fx : Finite x) (h1 : eqB y 0 = true) (h2 : geB x 0 = true) (hsb : Hid (negB x = false)) (w : World) : Calls Try.prog 105 #[.float .f64 y, .float .f64 x] w fun e w' => e = .returned (.float .f64 (y - y % 2 ^ 63)) ∧ w = w' := by
  have q1 : (FloatKind.f64.format.order y 0 == some .eq) = true := h1
  have q2 : (FloatKind.f64.format.order x 0 == some .gt || FloatKind.f64.format.order x 0 == some .eq) = true := h2
  have HF := Lib.hid (And.intro fy fx)
  clear fy fx h1 h2
  go_enter Try.func105, Try.ntmps105
  go_wp2_with fail
  refine (IsNaN_fin y _ (.inl HF.out.1)).mono ?_
  rintro e w' ⟨rfl, rfl⟩
  go_wp2_with fail
  refine (IsNaN_fin x _ (.inl HF.out.2)).mono ?_
  rintro e w' ⟨rfl, rfl⟩
  go_wp2_with fail
  refine (Signbit_any x _ HF.out.2.1).mono ?_
  rintro e w' ⟨rfl, rfl⟩
  rw [hsb.out]
  go_wp2_with fail
  refine (Copysign_any 0 y _ (by decide) HF.out.1.1).mono ?_
  rintro e w' ⟨rfl, rfl⟩
  go_wp2
  go_ret
  exact ⟨rfl, rfl⟩
set_option maxRecDepth 100000 in
set_option maxHeartbeats 1000000 in
theorem at2_y0m (y x : Nat) (fy : Finite y) (fx : Finite x) (h1 : eqB y 0 = true) (h2 : geB x 0 = true) (hsb : Hid (negB x = true)) (w : World) : Calls Try.prog 105 #[.float .f64 y, .float .f64 x] w fun e w' => e = .returned (.float .f64 (4614256656552045848 % 2 ^ 63 + (y - y % 2 ^ 63))) ∧ w = w' := by
  have q1 : (FloatKind.f64.format.order y 0 == some .eq) = true := h1
  have q2 : (FloatKind.f64.format.order x 0 == some .gt || FloatKind.f64.format.order x 0 == some .eq) = true := h2
  have HF := Lib.hid (And.intro fy fx)
  clear fy fx h1 h2
  go_enter Try.func105, Try.ntmps105
  go_wp2_with fail
  refine (IsNaN_fin y _ (.inl HF.out.1)).mono ?_
  rintro e w' ⟨rfl, rfl⟩
  go_wp2_with fail
  refine (IsNaN_fin x _ (.inl HF.out.2)).mono ?_
  rintro e w' ⟨rfl, rfl⟩
  go_wp2_with fail
  refine (Signbit_any x _ HF.out.2.1).mono ?_
  rintro e w' ⟨rfl, rfl⟩
  rw [hsb.out]
  go_wp2_with fail
  refine (Copysign_any 4614256656552045848 y _ (by decide) HF.out.1.1).mono ?_
  rintro e w' ⟨rfl, rfl⟩
  go_wp2
  go_ret
  exact ⟨rfl, rfl⟩
set_option maxRecDepth 100000 in
set_option maxHeartbeats 1000000 in
theorem at2_y0n (y x : Nat) (fy : Finite y) (fx : Finite x) (h1 : eqB y 0 = true) (h2 : geB x 0 = false) (w : World) : Calls Try.prog 105 #[.float .f64 y, .float .f64 x] w fun e w' => e = .returned (.float .f64 (4614256656552045848 % 2 ^ 63 + (y - y % 2 ^ 63))) ∧ w = w' := by
  have q1 : (FloatKind.f64.format.order y 0 == some .eq) = true := h1
  have q2 : (FloatKind.f64.format.order x 0 == some .gt || FloatKind.f64.format.order x 0 == some .eq) = false := h2
  have HF := Lib.hid (And.intro fy fx)
  clear fy fx h1 h2
  go_enter Try.func105, Try.ntmps105
  go_wp2_with fail
  refine (IsNaN_fin y _ (.inl HF.out.1)).mono ?_
  rintro e w' ⟨rfl, rfl⟩
  go_wp2_with fail
  refine (IsNaN_fin x _ (.inl HF.out.2)).mono ?_
  rintro e w' ⟨rfl, rfl⟩
  go_wp2_with fail
  refine (Copysign_any 4614256656552045848 y _ (by decide) HF.out.1.1).mono ?_
  rintro e w' ⟨rfl, rfl⟩
  go_wp2
  go_ret
  exact ⟨rfl, rfl⟩
set_option maxRecDepth 100000 in
set_option maxHeartbeats 1000000 in
theorem at2_x0 (y x : Nat) (fy : Finite y) (fx : Finite x) (h1 : eqB y 0 = false) (h2 : eqB x 0 = true) (w : World) : Calls Try.prog 105 #[.float .f64 y, .float .f64 x] w fun e w' => e = .returned (.float .f64 (4609753056924675352 % 2 ^ 63 + (y - y % 2 ^ 63))) ∧ w = w' := by
  have q1 : (FloatKind.f64.format.order y 0 == some .eq) = false := h1
  have q2 : (FloatKind.f64.format.order x 0 == some .eq) = true := h2
  have HF := Lib.hid (And.intro fy fx)
  clear fy fx h1 h2
  go_enter Try.func105, Try.ntmps105
  go_wp2_with fail
  refine (IsNaN_fin y _ (.inl HF.out.1)).mono ?_
  rintro e w' ⟨rfl, rfl⟩
  go_wp2_with fail
  refine (IsNaN_fin x _ (.inl HF.out.2)).mono ?_
  rintro e w' ⟨rfl, rfl⟩
  go_wp2_with fail
  refine (Copysign_any 4609753056924675352 y _ (by decide) HF.out.1.1).mono ?_
  rintro e w' ⟨rfl, rfl⟩
  go_wp2
  go_ret
  exact ⟨rfl, rfl⟩
set_option maxHeartbeats 400000 in
theorem Atan2_any (y x r : Nat) (hs : ∀ w, Calls Try.prog 105 #[.float .f64 y, .float .f64 x] w fun e w' => e = .returned (.float .f64 r) ∧ w = w') (w : World) : Calls Try.prog 97 #[.float .f64 y, .float .f64 x] w fun e w' => e = .returned (.float .f64 r) ∧ Below w.heap.size w w' := by
  have HS := Lib.hid hs
  clear hs
  go_enter Try.func97, Try.ntmps97
  go_wp2_with (go_at_call 105; refine (HS.out _).mono ?_; rintro e w' ⟨rfl, rfl⟩)
  go_ret
  exact ⟨rfl, Below.refl _ _⟩
end Go.Proofs.Ytafeeebgleecfaa.Mat
