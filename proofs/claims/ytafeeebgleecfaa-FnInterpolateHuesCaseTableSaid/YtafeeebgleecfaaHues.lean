/-
  interpolateHues goes linearly from one hue to the other, round the circle as its method says; no conditions.
-/
import Derived.Test.YtafeeebgleecfaaRows
import Derived.WalkKit
import Derived.ProofKit
import Derived.OpenShut
import Derived.ShutString
import Derived.ChangeOld
import Derived.Below
import Derived.Lib.Hide
import Derived.Outline
import Derived.Laws.Cover2
import Derived.Laws.Cover2
import Derived.Laws.FloatArith
import Derived.Test.YtafeeebgleecfaaIz
namespace Go.Proofs.Ytafeeebgleecfaa.fnInterpolateHuesCaseTable
open Go.ChangeShapes Go.WideShapes Go.ChangeAt Go.RowKit
open Go.ChangeMaps (open_string shut_string)
set_option linter.unusedVariables false

theorem own : ownKnob Try.prog.godebug = none := by kernel_rfl
theorem laidOut : laidOutB Try.prog = true := by kernel_rfl

open Mat FL
def milM : Nat := FL.flip 4696837146684686336
set_option maxHeartbeats 400000 in
theorem bounded_any (x : Nat) (w : World) : Calls Try.prog 33 #[.float .f64 x, .float .f64 4696837146684686336] w fun e w' => e = .returned (.bool (geB x milM && leB x 4696837146684686336)) ∧ w = w' := by
  have hn : ∀ w, (Op.unary .neg (.float .f64 4696837146684686336)).run Try.prog w = .ok (.float .f64 milM) w := fun w => rfl
  cases h1 : FloatKind.f64.format.order x milM with
  | none =>
    have g : geB x milM = false := by unfold geB; rw [show Ieee.double.order x milM = none from h1]; rfl
    rw [g]
    generalize milM = m at *
    go_enter Try.func33, Try.ntmps33
    go_wp2
    go_ret
    exact ⟨rfl, rfl⟩
  | some o =>
    cases o
    · have g : geB x milM = false := by unfold geB; rw [show Ieee.double.order x milM = some .lt from h1]; rfl
      rw [g]
      generalize milM = m at *
      go_enter Try.func33, Try.ntmps33
      go_wp2
      go_ret
      exact ⟨rfl, rfl⟩
    · have g : geB x milM = true := by unfold geB; rw [show Ieee.double.order x milM = some .eq from h1]; rfl
      rw [g]
      generalize milM = m at *
      go_enter Try.func33, Try.ntmps33
      go_wp2
      go_ret
      exact ⟨rfl, rfl⟩
    · have g : geB x milM = true := by unfold geB; rw [show Ieee.double.order x milM = some .gt from h1]; rfl
      rw [g]
      generalize milM = m at *
      go_enter Try.func33, Try.ntmps33
      go_wp2
      go_ret
      exact ⟨rfl, rfl⟩
set_option maxRecDepth 100000 in
set_option maxHeartbeats 1000000 in
theorem out1 (a b t : Nat) (m : Int) (w : World) (i1 : Hid ((geB a milM && leB a 4696837146684686336) = false)) : Calls Try.prog 9 #[.float .f64 a, .float .f64 b, .float .f64 t, .int .u8 m] w fun e w' => e = .returned (.bool true) ∧ Below w.heap.size w w' := by
  go_enter Try.func9, Try.ntmps9
  go_wp2_with fail
  refine (bounded_any _ _).mono ?_
  rintro e w' ⟨rfl, rfl⟩
  rw [i1.out]
  go_wp2
  go_ret
  exact ⟨rfl, Below.refl _ _⟩
set_option maxRecDepth 100000 in
set_option maxHeartbeats 1000000 in
theorem out2 (a b t : Nat) (m : Int) (w : World) (i1 : Hid ((geB a milM && leB a 4696837146684686336) = true)) (i2 : Hid ((geB b milM && leB b 4696837146684686336) = false)) : Calls Try.prog 9 #[.float .f64 a, .float .f64 b, .float .f64 t, .int .u8 m] w fun e w' => e = .returned (.bool true) ∧ Below w.heap.size w w' := by
  go_enter Try.func9, Try.ntmps9
  go_wp2_with fail
  refine (bounded_any _ _).mono ?_
  rintro e w' ⟨rfl, rfl⟩
  rw [i1.out]
  go_wp2_with fail
  refine (bounded_any _ _).mono ?_
  rintro e w' ⟨rfl, rfl⟩
  rw [i2.out]
  go_wp2
  go_ret
  exact ⟨rfl, Below.refl _ _⟩
set_option maxRecDepth 100000 in
set_option maxHeartbeats 1000000 in
theorem out3 (a b t : Nat) (m : Int) (w : World) (i1 : Hid ((geB a milM && leB a 4696837146684686336) = true)) (i2 : Hid ((geB b milM && leB b 4696837146684686336) = true)) (h : geB t 0 = false) : Calls Try.prog 9 #[.float .f64 a, .float .f64 b, .float .f64 t, .int .u8 m] w fun e w' => e = .returned (.bool true) ∧ Below w.heap.size w w' := by
  have q1 : (FloatKind.f64.format.order t 0 == some .gt || FloatKind.f64.format.order t 0 == some .eq) = false := h
  clear h
  go_enter Try.func9, Try.ntmps9
  go_wp2_with fail
  refine (bounded_any _ _).mono ?_
  rintro e w' ⟨rfl, rfl⟩
  rw [i1.out]
  go_wp2_with fail
  refine (bounded_any _ _).mono ?_
  rintro e w' ⟨rfl, rfl⟩
  rw [i2.out]
  go_wp2
  go_ret
  exact ⟨rfl, Below.refl _ _⟩
set_option maxRecDepth 100000 in
set_option maxHeartbeats 1000000 in
theorem out4 (a b t : Nat) (m : Int) (w : World) (i1 : Hid ((geB a milM && leB a 4696837146684686336) = true)) (i2 : Hid ((geB b milM && leB b 4696837146684686336) = true)) (h0 : geB t 0 = true) (h : leB t 4607182418800017408 = false) : Calls Try.prog 9 #[.float .f64 a, .float .f64 b, .float .f64 t, .int .u8 m] w fun e w' => e = .returned (.bool true) ∧ Below w.heap.size w w' := by
  have q1 : (FloatKind.f64.format.order t 0 == some .gt || FloatKind.f64.format.order t 0 == some .eq) = true := h0
  have q2 : (FloatKind.f64.format.order t 4607182418800017408 == some .lt || FloatKind.f64.format.order t 4607182418800017408 == some .eq) = false := h
  clear h h0
  go_enter Try.func9, Try.ntmps9
  go_wp2_with fail
  refine (bounded_any _ _).mono ?_
  rintro e w' ⟨rfl, rfl⟩
  rw [i1.out]
  go_wp2_with fail
  refine (bounded_any _ _).mono ?_
  rintro e w' ⟨rfl, rfl⟩
  rw [i2.out]
  go_wp2
  go_ret
  exact ⟨rfl, Below.refl _ _⟩
set_option maxRecDepth 100000 in
set_option maxHeartbeats 4000000 in
theorem main0a (a b t z0 z1 zt c0 c1 d s2 s3 s4 : Nat) (w : World) (i1 : Hid ((geB a milM && leB a 4696837146684686336) = true)) (i2 : Hid ((geB b milM && leB b 4696837146684686336) = true)) (h0 : geB t 0 = true) (h1 : leB t 4607182418800017408 = true)
    (H0 : Hid (∀ w, Calls Try.prog 34 #[.float .f64 a, .float .f64 b, .float .f64 0, .int .u8 0] w fun e w' => e = .returned (.float .f64 z0) ∧ Below w.heap.size w w')) (H1 : Hid (∀ w, Calls Try.prog 34 #[.float .f64 a, .float .f64 b, .float .f64 4607182418800017408, .int .u8 0] w fun e w' => e = .returned (.float .f64 z1) ∧ Below w.heap.size w w')) (HT : Hid (∀ w, Calls Try.prog 34 #[.float .f64 a, .float .f64 b, .float .f64 t, .int .u8 0] w fun e w' => e = .returned (.float .f64 zt) ∧ Below w.heap.size w w'))
    (C0 : Hid (∀ w, Calls Try.prog 35 #[.float .f64 z0, .float .f64 a] w fun e w' => e = .returned (.float .f64 c0) ∧ w = w')) (C1 : Hid (∀ w, Calls Try.prog 35 #[.float .f64 z1, .float .f64 b] w fun e w' => e = .returned (.float .f64 c1) ∧ w = w')) (x0 : gtB c0 4517329193108106637 = false) (x1 : gtB c1 4517329193108106637 = false)
    (k1 : Ieee.double.sub z1 z0 = some d) (k2 : Ieee.double.mul d t = some s2) (k3 : Ieee.double.add z0 s2 = some s3) (k4 : Ieee.double.sub zt s3 = some s4) (x2 : gtB (absW s4) 4517329193108106637 = false) (x3 : ltB z0 13740701229962882445 = false) (x4 : ltB z1 13740701229962882445 = false) (x5 : gtB z0 4649544402803767229 = false) (x6 : gtB z1 4649544402803767229 = false) (t0 : gtB z0 4645040803185192826 = false) (t1 : leB (absW d) 4640537203575414516 = true) :
    Calls Try.prog 9 #[.float .f64 a, .float .f64 b, .float .f64 t, .int .u8 0] w fun e w' => e = .returned (.bool true) ∧ Below w.heap.size w w' := by
  have q1 : (FloatKind.f64.format.order t 0 == some .gt || FloatKind.f64.format.order t 0 == some .eq) = true := h0
  have q2 : (FloatKind.f64.format.order t 4607182418800017408 == some .lt || FloatKind.f64.format.order t 4607182418800017408 == some .eq) = true := h1
  have q3 : (FloatKind.f64.format.order c0 4517329193108106637 == some .gt) = false := x0
  have q4 : (FloatKind.f64.format.order c1 4517329193108106637 == some .gt) = false := x1
  have q5 : (FloatKind.f64.format.order (absW s4) 4517329193108106637 == some .gt) = false := x2
  have q6 : (FloatKind.f64.format.order z0 13740701229962882445 == some .lt) = false := x3
  have q7 : (FloatKind.f64.format.order z1 13740701229962882445 == some .lt) = false := x4
  have q8 : (FloatKind.f64.format.order z0 4649544402803767229 == some .gt) = false := x5
  have q9 : (FloatKind.f64.format.order z1 4649544402803767229 == some .gt) = false := x6
  have p0 : (FloatKind.f64.format.order z0 4645040803185192826 == some .gt) = false := t0
  have p1 : (FloatKind.f64.format.order (absW d) 4640537203575414516 == some .lt || FloatKind.f64.format.order (absW d) 4640537203575414516 == some .eq) = true := t1
  have m1 : ∀ w, (binOp .sub 22 (.float .f64 z1) (.float .f64 z0)).run Try.prog w = .ok (.float .f64 d) w := fun w => run_float_arith w .sub 22 .f64 _ _ _ k1
  have m2 : ∀ w, (binOp .mul 22 (.float .f64 d) (.float .f64 t)).run Try.prog w = .ok (.float .f64 s2) w := fun w => run_float_arith w .mul 22 .f64 _ _ _ k2
  have m3 : ∀ w, (binOp .add 22 (.float .f64 z0) (.float .f64 s2)).run Try.prog w = .ok (.float .f64 s3) w := fun w => run_float_arith w .add 22 .f64 _ _ _ k3
  have m4 : ∀ w, (binOp .sub 22 (.float .f64 zt) (.float .f64 s3)).run Try.prog w = .ok (.float .f64 s4) w := fun w => run_float_arith w .sub 22 .f64 _ _ _ k4
  clear h0 h1 x0 x1 x2 x3 x4 x5 x6 k1 k2 k3 k4 t0 t1
  go_enter Try.func9, Try.ntmps9
  go_wp2_with fail
  refine (bounded_any _ _).mono ?_
  rintro e w' ⟨rfl, rfl⟩
  rw [i1.out]
  go_wp2_with fail
  refine (bounded_any _ _).mono ?_
  rintro e w' ⟨rfl, rfl⟩
  rw [i2.out]
  go_wp2_with fail
  refine (H0.out _).mono ?_
  rintro e w1 ⟨rfl, b1⟩
  have B1 := Lib.hid b1
  clear b1
  go_wp2_with fail
  refine (H1.out _).mono ?_
  rintro e w2 ⟨rfl, b2⟩
  have B2 := Lib.hid b2
  clear b2
  go_wp2_with fail
  refine (HT.out _).mono ?_
  rintro e w3 ⟨rfl, b3⟩
  have B3 := Lib.hid (B1.out.trans ((B2.out.mono B1.out.size).trans (b3.mono (Nat.le_trans B1.out.size B2.out.size))))
  clear b3 B1 B2
  go_wp2_with fail
  refine (C0.out _).mono ?_
  rintro e w' ⟨rfl, rfl⟩
  go_wp2_with fail
  refine (C1.out _).mono ?_
  rintro e w' ⟨rfl, rfl⟩
  go_wp2_with (go_at_call 36; refine (zabs_any _ _).mono ?_; rintro e w' ⟨rfl, rfl⟩)
  go_ret
  exact ⟨rfl, B3.out⟩
set_option maxRecDepth 100000 in
set_option maxHeartbeats 4000000 in
theorem main0b (a b t z0 z1 zt c0 c1 d s2 s3 s4 : Nat) (w : World) (i1 : Hid ((geB a milM && leB a 4696837146684686336) = true)) (i2 : Hid ((geB b milM && leB b 4696837146684686336) = true)) (h0 : geB t 0 = true) (h1 : leB t 4607182418800017408 = true)
    (H0 : Hid (∀ w, Calls Try.prog 34 #[.float .f64 a, .float .f64 b, .float .f64 0, .int .u8 0] w fun e w' => e = .returned (.float .f64 z0) ∧ Below w.heap.size w w')) (H1 : Hid (∀ w, Calls Try.prog 34 #[.float .f64 a, .float .f64 b, .float .f64 4607182418800017408, .int .u8 0] w fun e w' => e = .returned (.float .f64 z1) ∧ Below w.heap.size w w')) (HT : Hid (∀ w, Calls Try.prog 34 #[.float .f64 a, .float .f64 b, .float .f64 t, .int .u8 0] w fun e w' => e = .returned (.float .f64 zt) ∧ Below w.heap.size w w'))
    (C0 : Hid (∀ w, Calls Try.prog 35 #[.float .f64 z0, .float .f64 a] w fun e w' => e = .returned (.float .f64 c0) ∧ w = w')) (C1 : Hid (∀ w, Calls Try.prog 35 #[.float .f64 z1, .float .f64 b] w fun e w' => e = .returned (.float .f64 c1) ∧ w = w')) (x0 : gtB c0 4517329193108106637 = false) (x1 : gtB c1 4517329193108106637 = false)
    (k1 : Ieee.double.sub z1 z0 = some d) (k2 : Ieee.double.mul d t = some s2) (k3 : Ieee.double.add z0 s2 = some s3) (k4 : Ieee.double.sub zt s3 = some s4) (x2 : gtB (absW s4) 4517329193108106637 = false) (x3 : ltB z0 13740701229962882445 = false) (x4 : ltB z1 13740701229962882445 = false) (x5 : gtB z0 4649544402803767229 = false) (x6 : gtB z1 4649544402803767229 = false) (t0 : gtB z0 4645040803185192826 = true) (t1 : gtB z1 4645040803185192826 = false) (t2 : leB (absW d) 4640537203575414516 = true) :
    Calls Try.prog 9 #[.float .f64 a, .float .f64 b, .float .f64 t, .int .u8 0] w fun e w' => e = .returned (.bool true) ∧ Below w.heap.size w w' := by
  have q1 : (FloatKind.f64.format.order t 0 == some .gt || FloatKind.f64.format.order t 0 == some .eq) = true := h0
  have q2 : (FloatKind.f64.format.order t 4607182418800017408 == some .lt || FloatKind.f64.format.order t 4607182418800017408 == some .eq) = true := h1
  have q3 : (FloatKind.f64.format.order c0 4517329193108106637 == some .gt) = false := x0
  have q4 : (FloatKind.f64.format.order c1 4517329193108106637 == some .gt) = false := x1
  have q5 : (FloatKind.f64.format.order (absW s4) 4517329193108106637 == some .gt) = false := x2
  have q6 : (FloatKind.f64.format.order z0 13740701229962882445 == some .lt) = false := x3
  have q7 : (FloatKind.f64.format.order z1 13740701229962882445 == some .lt) = false := x4
  have q8 : (FloatKind.f64.format.order z0 4649544402803767229 == some .gt) = false := x5
  have q9 : (FloatKind.f64.format.order z1 4649544402803767229 == some .gt) = false := x6
  have p0 : (FloatKind.f64.format.order z0 4645040803185192826 == some .gt) = true := t0
  have p1 : (FloatKind.f64.format.order z1 4645040803185192826 == some .gt) = false := t1
  have p2 : (FloatKind.f64.format.order (absW d) 4640537203575414516 == some .lt || FloatKind.f64.format.order (absW d) 4640537203575414516 == some .eq) = true := t2
  have m1 : ∀ w, (binOp .sub 22 (.float .f64 z1) (.float .f64 z0)).run Try.prog w = .ok (.float .f64 d) w := fun w => run_float_arith w .sub 22 .f64 _ _ _ k1
  have m2 : ∀ w, (binOp .mul 22 (.float .f64 d) (.float .f64 t)).run Try.prog w = .ok (.float .f64 s2) w := fun w => run_float_arith w .mul 22 .f64 _ _ _ k2
  have m3 : ∀ w, (binOp .add 22 (.float .f64 z0) (.float .f64 s2)).run Try.prog w = .ok (.float .f64 s3) w := fun w => run_float_arith w .add 22 .f64 _ _ _ k3
  have m4 : ∀ w, (binOp .sub 22 (.float .f64 zt) (.float .f64 s3)).run Try.prog w = .ok (.float .f64 s4) w := fun w => run_float_arith w .sub 22 .f64 _ _ _ k4
  clear h0 h1 x0 x1 x2 x3 x4 x5 x6 k1 k2 k3 k4 t0 t1 t2
  go_enter Try.func9, Try.ntmps9
  go_wp2_with fail
  refine (bounded_any _ _).mono ?_
  rintro e w' ⟨rfl, rfl⟩
  rw [i1.out]
  go_wp2_with fail
  refine (bounded_any _ _).mono ?_
  rintro e w' ⟨rfl, rfl⟩
  rw [i2.out]
  go_wp2_with fail
  refine (H0.out _).mono ?_
  rintro e w1 ⟨rfl, b1⟩
  have B1 := Lib.hid b1
  clear b1
  go_wp2_with fail
  refine (H1.out _).mono ?_
  rintro e w2 ⟨rfl, b2⟩
  have B2 := Lib.hid b2
  clear b2
  go_wp2_with fail
  refine (HT.out _).mono ?_
  rintro e w3 ⟨rfl, b3⟩
  have B3 := Lib.hid (B1.out.trans ((B2.out.mono B1.out.size).trans (b3.mono (Nat.le_trans B1.out.size B2.out.size))))
  clear b3 B1 B2
  go_wp2_with fail
  refine (C0.out _).mono ?_
  rintro e w' ⟨rfl, rfl⟩
  go_wp2_with fail
  refine (C1.out _).mono ?_
  rintro e w' ⟨rfl, rfl⟩
  go_wp2_with (go_at_call 36; refine (zabs_any _ _).mono ?_; rintro e w' ⟨rfl, rfl⟩)
  go_ret
  exact ⟨rfl, B3.out⟩
set_option maxRecDepth 100000 in
set_option maxHeartbeats 4000000 in
theorem main1a (a b t z0 z1 zt c0 c1 d s2 s3 s4 : Nat) (w : World) (i1 : Hid ((geB a milM && leB a 4696837146684686336) = true)) (i2 : Hid ((geB b milM && leB b 4696837146684686336) = true)) (h0 : geB t 0 = true) (h1 : leB t 4607182418800017408 = true)
    (H0 : Hid (∀ w, Calls Try.prog 34 #[.float .f64 a, .float .f64 b, .float .f64 0, .int .u8 1] w fun e w' => e = .returned (.float .f64 z0) ∧ Below w.heap.size w w')) (H1 : Hid (∀ w, Calls Try.prog 34 #[.float .f64 a, .float .f64 b, .float .f64 4607182418800017408, .int .u8 1] w fun e w' => e = .returned (.float .f64 z1) ∧ Below w.heap.size w w')) (HT : Hid (∀ w, Calls Try.prog 34 #[.float .f64 a, .float .f64 b, .float .f64 t, .int .u8 1] w fun e w' => e = .returned (.float .f64 zt) ∧ Below w.heap.size w w'))
    (C0 : Hid (∀ w, Calls Try.prog 35 #[.float .f64 z0, .float .f64 a] w fun e w' => e = .returned (.float .f64 c0) ∧ w = w')) (C1 : Hid (∀ w, Calls Try.prog 35 #[.float .f64 z1, .float .f64 b] w fun e w' => e = .returned (.float .f64 c1) ∧ w = w')) (x0 : gtB c0 4517329193108106637 = false) (x1 : gtB c1 4517329193108106637 = false)
    (k1 : Ieee.double.sub z1 z0 = some d) (k2 : Ieee.double.mul d t = some s2) (k3 : Ieee.double.add z0 s2 = some s3) (k4 : Ieee.double.sub zt s3 = some s4) (x2 : gtB (absW s4) 4517329193108106637 = false) (x3 : ltB z0 13740701229962882445 = false) (x4 : ltB z1 13740701229962882445 = false) (x5 : gtB z0 4649544402803767229 = false) (x6 : gtB z1 4649544402803767229 = false) (t0 : gtB z0 4645040803185192826 = false) (t1 : geB (absW d) 4640537203505045772 = true) (t2 : leB (absW d) 4645040803185192826 = true) :
    Calls Try.prog 9 #[.float .f64 a, .float .f64 b, .float .f64 t, .int .u8 1] w fun e w' => e = .returned (.bool true) ∧ Below w.heap.size w w' := by
  have q1 : (FloatKind.f64.format.order t 0 == some .gt || FloatKind.f64.format.order t 0 == some .eq) = true := h0
  have q2 : (FloatKind.f64.format.order t 4607182418800017408 == some .lt || FloatKind.f64.format.order t 4607182418800017408 == some .eq) = true := h1
  have q3 : (FloatKind.f64.format.order c0 4517329193108106637 == some .gt) = false := x0
  have q4 : (FloatKind.f64.format.order c1 4517329193108106637 == some .gt) = false := x1
  have q5 : (FloatKind.f64.format.order (absW s4) 4517329193108106637 == some .gt) = false := x2
  have q6 : (FloatKind.f64.format.order z0 13740701229962882445 == some .lt) = false := x3
  have q7 : (FloatKind.f64.format.order z1 13740701229962882445 == some .lt) = false := x4
  have q8 : (FloatKind.f64.format.order z0 4649544402803767229 == some .gt) = false := x5
  have q9 : (FloatKind.f64.format.order z1 4649544402803767229 == some .gt) = false := x6
  have p0 : (FloatKind.f64.format.order z0 4645040803185192826 == some .gt) = false := t0
  have p1 : (FloatKind.f64.format.order (absW d) 4640537203505045772 == some .gt || FloatKind.f64.format.order (absW d) 4640537203505045772 == some .eq) = true := t1
  have p2 : (FloatKind.f64.format.order (absW d) 4645040803185192826 == some .lt || FloatKind.f64.format.order (absW d) 4645040803185192826 == some .eq) = true := t2
  have m1 : ∀ w, (binOp .sub 22 (.float .f64 z1) (.float .f64 z0)).run Try.prog w = .ok (.float .f64 d) w := fun w => run_float_arith w .sub 22 .f64 _ _ _ k1
  have m2 : ∀ w, (binOp .mul 22 (.float .f64 d) (.float .f64 t)).run Try.prog w = .ok (.float .f64 s2) w := fun w => run_float_arith w .mul 22 .f64 _ _ _ k2
  have m3 : ∀ w, (binOp .add 22 (.float .f64 z0) (.float .f64 s2)).run Try.prog w = .ok (.float .f64 s3) w := fun w => run_float_arith w .add 22 .f64 _ _ _ k3
  have m4 : ∀ w, (binOp .sub 22 (.float .f64 zt) (.float .f64 s3)).run Try.prog w = .ok (.float .f64 s4) w := fun w => run_float_arith w .sub 22 .f64 _ _ _ k4
  clear h0 h1 x0 x1 x2 x3 x4 x5 x6 k1 k2 k3 k4 t0 t1 t2
  go_enter Try.func9, Try.ntmps9
  go_wp2_with fail
  refine (bounded_any _ _).mono ?_
  rintro e w' ⟨rfl, rfl⟩
  rw [i1.out]
  go_wp2_with fail
  refine (bounded_any _ _).mono ?_
  rintro e w' ⟨rfl, rfl⟩
  rw [i2.out]
  go_wp2_with fail
  refine (H0.out _).mono ?_
  rintro e w1 ⟨rfl, b1⟩
  have B1 := Lib.hid b1
  clear b1
  go_wp2_with fail
  refine (H1.out _).mono ?_
  rintro e w2 ⟨rfl, b2⟩
  have B2 := Lib.hid b2
  clear b2
  go_wp2_with fail
  refine (HT.out _).mono ?_
  rintro e w3 ⟨rfl, b3⟩
  have B3 := Lib.hid (B1.out.trans ((B2.out.mono B1.out.size).trans (b3.mono (Nat.le_trans B1.out.size B2.out.size))))
  clear b3 B1 B2
  go_wp2_with fail
  refine (C0.out _).mono ?_
  rintro e w' ⟨rfl, rfl⟩
  go_wp2_with fail
  refine (C1.out _).mono ?_
  rintro e w' ⟨rfl, rfl⟩
  go_wp2_with (go_at_call 36; refine (zabs_any _ _).mono ?_; rintro e w' ⟨rfl, rfl⟩)
  go_ret
  exact ⟨rfl, B3.out⟩
set_option maxRecDepth 100000 in
set_option maxHeartbeats 4000000 in
theorem main1b (a b t z0 z1 zt c0 c1 d s2 s3 s4 : Nat) (w : World) (i1 : Hid ((geB a milM && leB a 4696837146684686336) = true)) (i2 : Hid ((geB b milM && leB b 4696837146684686336) = true)) (h0 : geB t 0 = true) (h1 : leB t 4607182418800017408 = true)
    (H0 : Hid (∀ w, Calls Try.prog 34 #[.float .f64 a, .float .f64 b, .float .f64 0, .int .u8 1] w fun e w' => e = .returned (.float .f64 z0) ∧ Below w.heap.size w w')) (H1 : Hid (∀ w, Calls Try.prog 34 #[.float .f64 a, .float .f64 b, .float .f64 4607182418800017408, .int .u8 1] w fun e w' => e = .returned (.float .f64 z1) ∧ Below w.heap.size w w')) (HT : Hid (∀ w, Calls Try.prog 34 #[.float .f64 a, .float .f64 b, .float .f64 t, .int .u8 1] w fun e w' => e = .returned (.float .f64 zt) ∧ Below w.heap.size w w'))
    (C0 : Hid (∀ w, Calls Try.prog 35 #[.float .f64 z0, .float .f64 a] w fun e w' => e = .returned (.float .f64 c0) ∧ w = w')) (C1 : Hid (∀ w, Calls Try.prog 35 #[.float .f64 z1, .float .f64 b] w fun e w' => e = .returned (.float .f64 c1) ∧ w = w')) (x0 : gtB c0 4517329193108106637 = false) (x1 : gtB c1 4517329193108106637 = false)
    (k1 : Ieee.double.sub z1 z0 = some d) (k2 : Ieee.double.mul d t = some s2) (k3 : Ieee.double.add z0 s2 = some s3) (k4 : Ieee.double.sub zt s3 = some s4) (x2 : gtB (absW s4) 4517329193108106637 = false) (x3 : ltB z0 13740701229962882445 = false) (x4 : ltB z1 13740701229962882445 = false) (x5 : gtB z0 4649544402803767229 = false) (x6 : gtB z1 4649544402803767229 = false) (t0 : gtB z0 4645040803185192826 = true) (t1 : gtB z1 4645040803185192826 = false) (t2 : geB (absW d) 4640537203505045772 = true) (t3 : leB (absW d) 4645040803185192826 = true) :
    Calls Try.prog 9 #[.float .f64 a, .float .f64 b, .float .f64 t, .int .u8 1] w fun e w' => e = .returned (.bool true) ∧ Below w.heap.size w w' := by
  have q1 : (FloatKind.f64.format.order t 0 == some .gt || FloatKind.f64.format.order t 0 == some .eq) = true := h0
  have q2 : (FloatKind.f64.format.order t 4607182418800017408 == some .lt || FloatKind.f64.format.order t 4607182418800017408 == some .eq) = true := h1
  have q3 : (FloatKind.f64.format.order c0 4517329193108106637 == some .gt) = false := x0
  have q4 : (FloatKind.f64.format.order c1 4517329193108106637 == some .gt) = false := x1
  have q5 : (FloatKind.f64.format.order (absW s4) 4517329193108106637 == some .gt) = false := x2
  have q6 : (FloatKind.f64.format.order z0 13740701229962882445 == some .lt) = false := x3
  have q7 : (FloatKind.f64.format.order z1 13740701229962882445 == some .lt) = false := x4
  have q8 : (FloatKind.f64.format.order z0 4649544402803767229 == some .gt) = false := x5
  have q9 : (FloatKind.f64.format.order z1 4649544402803767229 == some .gt) = false := x6
  have p0 : (FloatKind.f64.format.order z0 4645040803185192826 == some .gt) = true := t0
  have p1 : (FloatKind.f64.format.order z1 4645040803185192826 == some .gt) = false := t1
  have p2 : (FloatKind.f64.format.order (absW d) 4640537203505045772 == some .gt || FloatKind.f64.format.order (absW d) 4640537203505045772 == some .eq) = true := t2
  have p3 : (FloatKind.f64.format.order (absW d) 4645040803185192826 == some .lt || FloatKind.f64.format.order (absW d) 4645040803185192826 == some .eq) = true := t3
  have m1 : ∀ w, (binOp .sub 22 (.float .f64 z1) (.float .f64 z0)).run Try.prog w = .ok (.float .f64 d) w := fun w => run_float_arith w .sub 22 .f64 _ _ _ k1
  have m2 : ∀ w, (binOp .mul 22 (.float .f64 d) (.float .f64 t)).run Try.prog w = .ok (.float .f64 s2) w := fun w => run_float_arith w .mul 22 .f64 _ _ _ k2
  have m3 : ∀ w, (binOp .add 22 (.float .f64 z0) (.float .f64 s2)).run Try.prog w = .ok (.float .f64 s3) w := fun w => run_float_arith w .add 22 .f64 _ _ _ k3
  have m4 : ∀ w, (binOp .sub 22 (.float .f64 zt) (.float .f64 s3)).run Try.prog w = .ok (.float .f64 s4) w := fun w => run_float_arith w .sub 22 .f64 _ _ _ k4
  clear h0 h1 x0 x1 x2 x3 x4 x5 x6 k1 k2 k3 k4 t0 t1 t2 t3
  go_enter Try.func9, Try.ntmps9
  go_wp2_with fail
  refine (bounded_any _ _).mono ?_
  rintro e w' ⟨rfl, rfl⟩
  rw [i1.out]
  go_wp2_with fail
  refine (bounded_any _ _).mono ?_
  rintro e w' ⟨rfl, rfl⟩
  rw [i2.out]
  go_wp2_with fail
  refine (H0.out _).mono ?_
  rintro e w1 ⟨rfl, b1⟩
  have B1 := Lib.hid b1
  clear b1
  go_wp2_with fail
  refine (H1.out _).mono ?_
  rintro e w2 ⟨rfl, b2⟩
  have B2 := Lib.hid b2
  clear b2
  go_wp2_with fail
  refine (HT.out _).mono ?_
  rintro e w3 ⟨rfl, b3⟩
  have B3 := Lib.hid (B1.out.trans ((B2.out.mono B1.out.size).trans (b3.mono (Nat.le_trans B1.out.size B2.out.size))))
  clear b3 B1 B2
  go_wp2_with fail
  refine (C0.out _).mono ?_
  rintro e w' ⟨rfl, rfl⟩
  go_wp2_with fail
  refine (C1.out _).mono ?_
  rintro e w' ⟨rfl, rfl⟩
  go_wp2_with (go_at_call 36; refine (zabs_any _ _).mono ?_; rintro e w' ⟨rfl, rfl⟩)
  go_ret
  exact ⟨rfl, B3.out⟩
set_option maxRecDepth 100000 in
set_option maxHeartbeats 4000000 in
theorem main2a (a b t z0 z1 zt c0 c1 d s2 s3 s4 : Nat) (w : World) (i1 : Hid ((geB a milM && leB a 4696837146684686336) = true)) (i2 : Hid ((geB b milM && leB b 4696837146684686336) = true)) (h0 : geB t 0 = true) (h1 : leB t 4607182418800017408 = true)
    (H0 : Hid (∀ w, Calls Try.prog 34 #[.float .f64 a, .float .f64 b, .float .f64 0, .int .u8 2] w fun e w' => e = .returned (.float .f64 z0) ∧ Below w.heap.size w w')) (H1 : Hid (∀ w, Calls Try.prog 34 #[.float .f64 a, .float .f64 b, .float .f64 4607182418800017408, .int .u8 2] w fun e w' => e = .returned (.float .f64 z1) ∧ Below w.heap.size w w')) (HT : Hid (∀ w, Calls Try.prog 34 #[.float .f64 a, .float .f64 b, .float .f64 t, .int .u8 2] w fun e w' => e = .returned (.float .f64 zt) ∧ Below w.heap.size w w'))
    (C0 : Hid (∀ w, Calls Try.prog 35 #[.float .f64 z0, .float .f64 a] w fun e w' => e = .returned (.float .f64 c0) ∧ w = w')) (C1 : Hid (∀ w, Calls Try.prog 35 #[.float .f64 z1, .float .f64 b] w fun e w' => e = .returned (.float .f64 c1) ∧ w = w')) (x0 : gtB c0 4517329193108106637 = false) (x1 : gtB c1 4517329193108106637 = false)
    (k1 : Ieee.double.sub z1 z0 = some d) (k2 : Ieee.double.mul d t = some s2) (k3 : Ieee.double.add z0 s2 = some s3) (k4 : Ieee.double.sub zt s3 = some s4) (x2 : gtB (absW s4) 4517329193108106637 = false) (x3 : ltB z0 13740701229962882445 = false) (x4 : ltB z1 13740701229962882445 = false) (x5 : gtB z0 4649544402803767229 = false) (x6 : gtB z1 4649544402803767229 = false) (t0 : gtB z0 4645040803185192826 = false) (t1 : geB d 13740701229962882445 = true) (t2 : leB d 4645040803185192826 = true) :
    Calls Try.prog 9 #[.float .f64 a, .float .f64 b, .float .f64 t, .int .u8 2] w fun e w' => e = .returned (.bool true) ∧ Below w.heap.size w w' := by
  have q1 : (FloatKind.f64.format.order t 0 == some .gt || FloatKind.f64.format.order t 0 == some .eq) = true := h0
  have q2 : (FloatKind.f64.format.order t 4607182418800017408 == some .lt || FloatKind.f64.format.order t 4607182418800017408 == some .eq) = true := h1
  have q3 : (FloatKind.f64.format.order c0 4517329193108106637 == some .gt) = false := x0
  have q4 : (FloatKind.f64.format.order c1 4517329193108106637 == some .gt) = false := x1
  have q5 : (FloatKind.f64.format.order (absW s4) 4517329193108106637 == some .gt) = false := x2
  have q6 : (FloatKind.f64.format.order z0 13740701229962882445 == some .lt) = false := x3
  have q7 : (FloatKind.f64.format.order z1 13740701229962882445 == some .lt) = false := x4
  have q8 : (FloatKind.f64.format.order z0 4649544402803767229 == some .gt) = false := x5
  have q9 : (FloatKind.f64.format.order z1 4649544402803767229 == some .gt) = false := x6
  have p0 : (FloatKind.f64.format.order z0 4645040803185192826 == some .gt) = false := t0
  have p1 : (FloatKind.f64.format.order d 13740701229962882445 == some .gt || FloatKind.f64.format.order d 13740701229962882445 == some .eq) = true := t1
  have p2 : (FloatKind.f64.format.order d 4645040803185192826 == some .lt || FloatKind.f64.format.order d 4645040803185192826 == some .eq) = true := t2
  have m1 : ∀ w, (binOp .sub 22 (.float .f64 z1) (.float .f64 z0)).run Try.prog w = .ok (.float .f64 d) w := fun w => run_float_arith w .sub 22 .f64 _ _ _ k1
  have m2 : ∀ w, (binOp .mul 22 (.float .f64 d) (.float .f64 t)).run Try.prog w = .ok (.float .f64 s2) w := fun w => run_float_arith w .mul 22 .f64 _ _ _ k2
  have m3 : ∀ w, (binOp .add 22 (.float .f64 z0) (.float .f64 s2)).run Try.prog w = .ok (.float .f64 s3) w := fun w => run_float_arith w .add 22 .f64 _ _ _ k3
  have m4 : ∀ w, (binOp .sub 22 (.float .f64 zt) (.float .f64 s3)).run Try.prog w = .ok (.float .f64 s4) w := fun w => run_float_arith w .sub 22 .f64 _ _ _ k4
  clear h0 h1 x0 x1 x2 x3 x4 x5 x6 k1 k2 k3 k4 t0 t1 t2
  go_enter Try.func9, Try.ntmps9
  go_wp2_with fail
  refine (bounded_any _ _).mono ?_
  rintro e w' ⟨rfl, rfl⟩
  rw [i1.out]
  go_wp2_with fail
  refine (bounded_any _ _).mono ?_
  rintro e w' ⟨rfl, rfl⟩
  rw [i2.out]
  go_wp2_with fail
  refine (H0.out _).mono ?_
  rintro e w1 ⟨rfl, b1⟩
  have B1 := Lib.hid b1
  clear b1
  go_wp2_with fail
  refine (H1.out _).mono ?_
  rintro e w2 ⟨rfl, b2⟩
  have B2 := Lib.hid b2
  clear b2
  go_wp2_with fail
  refine (HT.out _).mono ?_
  rintro e w3 ⟨rfl, b3⟩
  have B3 := Lib.hid (B1.out.trans ((B2.out.mono B1.out.size).trans (b3.mono (Nat.le_trans B1.out.size B2.out.size))))
  clear b3 B1 B2
  go_wp2_with fail
  refine (C0.out _).mono ?_
  rintro e w' ⟨rfl, rfl⟩
  go_wp2_with fail
  refine (C1.out _).mono ?_
  rintro e w' ⟨rfl, rfl⟩
  go_wp2_with (go_at_call 36; refine (zabs_any _ _).mono ?_; rintro e w' ⟨rfl, rfl⟩)
  go_ret
  exact ⟨rfl, B3.out⟩
set_option maxRecDepth 100000 in
set_option maxHeartbeats 4000000 in
theorem main2b (a b t z0 z1 zt c0 c1 d s2 s3 s4 : Nat) (w : World) (i1 : Hid ((geB a milM && leB a 4696837146684686336) = true)) (i2 : Hid ((geB b milM && leB b 4696837146684686336) = true)) (h0 : geB t 0 = true) (h1 : leB t 4607182418800017408 = true)
    (H0 : Hid (∀ w, Calls Try.prog 34 #[.float .f64 a, .float .f64 b, .float .f64 0, .int .u8 2] w fun e w' => e = .returned (.float .f64 z0) ∧ Below w.heap.size w w')) (H1 : Hid (∀ w, Calls Try.prog 34 #[.float .f64 a, .float .f64 b, .float .f64 4607182418800017408, .int .u8 2] w fun e w' => e = .returned (.float .f64 z1) ∧ Below w.heap.size w w')) (HT : Hid (∀ w, Calls Try.prog 34 #[.float .f64 a, .float .f64 b, .float .f64 t, .int .u8 2] w fun e w' => e = .returned (.float .f64 zt) ∧ Below w.heap.size w w'))
    (C0 : Hid (∀ w, Calls Try.prog 35 #[.float .f64 z0, .float .f64 a] w fun e w' => e = .returned (.float .f64 c0) ∧ w = w')) (C1 : Hid (∀ w, Calls Try.prog 35 #[.float .f64 z1, .float .f64 b] w fun e w' => e = .returned (.float .f64 c1) ∧ w = w')) (x0 : gtB c0 4517329193108106637 = false) (x1 : gtB c1 4517329193108106637 = false)
    (k1 : Ieee.double.sub z1 z0 = some d) (k2 : Ieee.double.mul d t = some s2) (k3 : Ieee.double.add z0 s2 = some s3) (k4 : Ieee.double.sub zt s3 = some s4) (x2 : gtB (absW s4) 4517329193108106637 = false) (x3 : ltB z0 13740701229962882445 = false) (x4 : ltB z1 13740701229962882445 = false) (x5 : gtB z0 4649544402803767229 = false) (x6 : gtB z1 4649544402803767229 = false) (t0 : gtB z0 4645040803185192826 = true) (t1 : gtB z1 4645040803185192826 = false) (t2 : geB d 13740701229962882445 = true) (t3 : leB d 4645040803185192826 = true) :
    Calls Try.prog 9 #[.float .f64 a, .float .f64 b, .float .f64 t, .int .u8 2] w fun e w' => e = .returned (.bool true) ∧ Below w.heap.size w w' := by
  have q1 : (FloatKind.f64.format.order t 0 == some .gt || FloatKind.f64.format.order t 0 == some .eq) = true := h0
  have q2 : (FloatKind.f64.format.order t 4607182418800017408 == some .lt || FloatKind.f64.format.order t 4607182418800017408 == some .eq) = true := h1
  have q3 : (FloatKind.f64.format.order c0 4517329193108106637 == some .gt) = false := x0
  have q4 : (FloatKind.f64.format.order c1 4517329193108106637 == some .gt) = false := x1
  have q5 : (FloatKind.f64.format.order (absW s4) 4517329193108106637 == some .gt) = false := x2
  have q6 : (FloatKind.f64.format.order z0 13740701229962882445 == some .lt) = false := x3
  have q7 : (FloatKind.f64.format.order z1 13740701229962882445 == some .lt) = false := x4
  have q8 : (FloatKind.f64.format.order z0 4649544402803767229 == some .gt) = false := x5
  have q9 : (FloatKind.f64.format.order z1 4649544402803767229 == some .gt) = false := x6
  have p0 : (FloatKind.f64.format.order z0 4645040803185192826 == some .gt) = true := t0
  have p1 : (FloatKind.f64.format.order z1 4645040803185192826 == some .gt) = false := t1
  have p2 : (FloatKind.f64.format.order d 13740701229962882445 == some .gt || FloatKind.f64.format.order d 13740701229962882445 == some .eq) = true := t2
  have p3 : (FloatKind.f64.format.order d 4645040803185192826 == some .lt || FloatKind.f64.format.order d 4645040803185192826 == some .eq) = true := t3
  have m1 : ∀ w, (binOp .sub 22 (.float .f64 z1) (.float .f64 z0)).run Try.prog w = .ok (.float .f64 d) w := fun w => run_float_arith w .sub 22 .f64 _ _ _ k1
  have m2 : ∀ w, (binOp .mul 22 (.float .f64 d) (.float .f64 t)).run Try.prog w = .ok (.float .f64 s2) w := fun w => run_float_arith w .mul 22 .f64 _ _ _ k2
  have m3 : ∀ w, (binOp .add 22 (.float .f64 z0) (.float .f64 s2)).run Try.prog w = .ok (.float .f64 s3) w := fun w => run_float_arith w .add 22 .f64 _ _ _ k3
  have m4 : ∀ w, (binOp .sub 22 (.float .f64 zt) (.float .f64 s3)).run Try.prog w = .ok (.float .f64 s4) w := fun w => run_float_arith w .sub 22 .f64 _ _ _ k4
  clear h0 h1 x0 x1 x2 x3 x4 x5 x6 k1 k2 k3 k4 t0 t1 t2 t3
  go_enter Try.func9, Try.ntmps9
  go_wp2_with fail
  refine (bounded_any _ _).mono ?_
  rintro e w' ⟨rfl, rfl⟩
  rw [i1.out]
  go_wp2_with fail
  refine (bounded_any _ _).mono ?_
  rintro e w' ⟨rfl, rfl⟩
  rw [i2.out]
  go_wp2_with fail
  refine (H0.out _).mono ?_
  rintro e w1 ⟨rfl, b1⟩
  have B1 := Lib.hid b1
  clear b1
  go_wp2_with fail
  refine (H1.out _).mono ?_
  rintro e w2 ⟨rfl, b2⟩
  have B2 := Lib.hid b2
  clear b2
  go_wp2_with fail
  refine (HT.out _).mono ?_
  rintro e w3 ⟨rfl, b3⟩
  have B3 := Lib.hid (B1.out.trans ((B2.out.mono B1.out.size).trans (b3.mono (Nat.le_trans B1.out.size B2.out.size))))
  clear b3 B1 B2
  go_wp2_with fail
  refine (C0.out _).mono ?_
  rintro e w' ⟨rfl, rfl⟩
  go_wp2_with fail
  refine (C1.out _).mono ?_
  rintro e w' ⟨rfl, rfl⟩
  go_wp2_with (go_at_call 36; refine (zabs_any _ _).mono ?_; rintro e w' ⟨rfl, rfl⟩)
  go_ret
  exact ⟨rfl, B3.out⟩
set_option maxRecDepth 100000 in
set_option maxHeartbeats 4000000 in
theorem main3a (a b t z0 z1 zt c0 c1 d s2 s3 s4 : Nat) (w : World) (i1 : Hid ((geB a milM && leB a 4696837146684686336) = true)) (i2 : Hid ((geB b milM && leB b 4696837146684686336) = true)) (h0 : geB t 0 = true) (h1 : leB t 4607182418800017408 = true)
    (H0 : Hid (∀ w, Calls Try.prog 34 #[.float .f64 a, .float .f64 b, .float .f64 0, .int .u8 3] w fun e w' => e = .returned (.float .f64 z0) ∧ Below w.heap.size w w')) (H1 : Hid (∀ w, Calls Try.prog 34 #[.float .f64 a, .float .f64 b, .float .f64 4607182418800017408, .int .u8 3] w fun e w' => e = .returned (.float .f64 z1) ∧ Below w.heap.size w w')) (HT : Hid (∀ w, Calls Try.prog 34 #[.float .f64 a, .float .f64 b, .float .f64 t, .int .u8 3] w fun e w' => e = .returned (.float .f64 zt) ∧ Below w.heap.size w w'))
    (C0 : Hid (∀ w, Calls Try.prog 35 #[.float .f64 z0, .float .f64 a] w fun e w' => e = .returned (.float .f64 c0) ∧ w = w')) (C1 : Hid (∀ w, Calls Try.prog 35 #[.float .f64 z1, .float .f64 b] w fun e w' => e = .returned (.float .f64 c1) ∧ w = w')) (x0 : gtB c0 4517329193108106637 = false) (x1 : gtB c1 4517329193108106637 = false)
    (k1 : Ieee.double.sub z1 z0 = some d) (k2 : Ieee.double.mul d t = some s2) (k3 : Ieee.double.add z0 s2 = some s3) (k4 : Ieee.double.sub zt s3 = some s4) (x2 : gtB (absW s4) 4517329193108106637 = false) (x3 : ltB z0 13740701229962882445 = false) (x4 : ltB z1 13740701229962882445 = false) (x5 : gtB z0 4649544402803767229 = false) (x6 : gtB z1 4649544402803767229 = false) (t0 : gtB z0 4645040803185192826 = false) (t1 : leB d 4517329193108106637 = true) (t2 : geB d 13868412840039968634 = true) :
    Calls Try.prog 9 #[.float .f64 a, .float .f64 b, .float .f64 t, .int .u8 3] w fun e w' => e = .returned (.bool true) ∧ Below w.heap.size w w' := by
  have q1 : (FloatKind.f64.format.order t 0 == some .gt || FloatKind.f64.format.order t 0 == some .eq) = true := h0
  have q2 : (FloatKind.f64.format.order t 4607182418800017408 == some .lt || FloatKind.f64.format.order t 4607182418800017408 == some .eq) = true := h1
  have q3 : (FloatKind.f64.format.order c0 4517329193108106637 == some .gt) = false := x0
  have q4 : (FloatKind.f64.format.order c1 4517329193108106637 == some .gt) = false := x1
  have q5 : (FloatKind.f64.format.order (absW s4) 4517329193108106637 == some .gt) = false := x2
  have q6 : (FloatKind.f64.format.order z0 13740701229962882445 == some .lt) = false := x3
  have q7 : (FloatKind.f64.format.order z1 13740701229962882445 == some .lt) = false := x4
  have q8 : (FloatKind.f64.format.order z0 4649544402803767229 == some .gt) = false := x5
  have q9 : (FloatKind.f64.format.order z1 4649544402803767229 == some .gt) = false := x6
  have p0 : (FloatKind.f64.format.order z0 4645040803185192826 == some .gt) = false := t0
  have p1 : (FloatKind.f64.format.order d 4517329193108106637 == some .lt || FloatKind.f64.format.order d 4517329193108106637 == some .eq) = true := t1
  have p2 : (FloatKind.f64.format.order d 13868412840039968634 == some .gt || FloatKind.f64.format.order d 13868412840039968634 == some .eq) = true := t2
  have m1 : ∀ w, (binOp .sub 22 (.float .f64 z1) (.float .f64 z0)).run Try.prog w = .ok (.float .f64 d) w := fun w => run_float_arith w .sub 22 .f64 _ _ _ k1
  have m2 : ∀ w, (binOp .mul 22 (.float .f64 d) (.float .f64 t)).run Try.prog w = .ok (.float .f64 s2) w := fun w => run_float_arith w .mul 22 .f64 _ _ _ k2
  have m3 : ∀ w, (binOp .add 22 (.float .f64 z0) (.float .f64 s2)).run Try.prog w = .ok (.float .f64 s3) w := fun w => run_float_arith w .add 22 .f64 _ _ _ k3
  have m4 : ∀ w, (binOp .sub 22 (.float .f64 zt) (.float .f64 s3)).run Try.prog w = .ok (.float .f64 s4) w := fun w => run_float_arith w .sub 22 .f64 _ _ _ k4
  clear h0 h1 x0 x1 x2 x3 x4 x5 x6 k1 k2 k3 k4 t0 t1 t2
  go_enter Try.func9, Try.ntmps9
  go_wp2_with fail
  refine (bounded_any _ _).mono ?_
  rintro e w' ⟨rfl, rfl⟩
  rw [i1.out]
  go_wp2_with fail
  refine (bounded_any _ _).mono ?_
  rintro e w' ⟨rfl, rfl⟩
  rw [i2.out]
  go_wp2_with fail
  refine (H0.out _).mono ?_
  rintro e w1 ⟨rfl, b1⟩
  have B1 := Lib.hid b1
  clear b1
  go_wp2_with fail
  refine (H1.out _).mono ?_
  rintro e w2 ⟨rfl, b2⟩
  have B2 := Lib.hid b2
  clear b2
  go_wp2_with fail
  refine (HT.out _).mono ?_
  rintro e w3 ⟨rfl, b3⟩
  have B3 := Lib.hid (B1.out.trans ((B2.out.mono B1.out.size).trans (b3.mono (Nat.le_trans B1.out.size B2.out.size))))
  clear b3 B1 B2
  go_wp2_with fail
  refine (C0.out _).mono ?_
  rintro e w' ⟨rfl, rfl⟩
  go_wp2_with fail
  refine (C1.out _).mono ?_
  rintro e w' ⟨rfl, rfl⟩
  go_wp2_with (go_at_call 36; refine (zabs_any _ _).mono ?_; rintro e w' ⟨rfl, rfl⟩)
  go_ret
  exact ⟨rfl, B3.out⟩
set_option maxRecDepth 100000 in
set_option maxHeartbeats 4000000 in
theorem main3b (a b t z0 z1 zt c0 c1 d s2 s3 s4 : Nat) (w : World) (i1 : Hid ((geB a milM && leB a 4696837146684686336) = true)) (i2 : Hid ((geB b milM && leB b 4696837146684686336) = true)) (h0 : geB t 0 = true) (h1 : leB t 4607182418800017408 = true)
    (H0 : Hid (∀ w, Calls Try.prog 34 #[.float .f64 a, .float .f64 b, .float .f64 0, .int .u8 3] w fun e w' => e = .returned (.float .f64 z0) ∧ Below w.heap.size w w')) (H1 : Hid (∀ w, Calls Try.prog 34 #[.float .f64 a, .float .f64 b, .float .f64 4607182418800017408, .int .u8 3] w fun e w' => e = .returned (.float .f64 z1) ∧ Below w.heap.size w w')) (HT : Hid (∀ w, Calls Try.prog 34 #[.float .f64 a, .float .f64 b, .float .f64 t, .int .u8 3] w fun e w' => e = .returned (.float .f64 zt) ∧ Below w.heap.size w w'))
    (C0 : Hid (∀ w, Calls Try.prog 35 #[.float .f64 z0, .float .f64 a] w fun e w' => e = .returned (.float .f64 c0) ∧ w = w')) (C1 : Hid (∀ w, Calls Try.prog 35 #[.float .f64 z1, .float .f64 b] w fun e w' => e = .returned (.float .f64 c1) ∧ w = w')) (x0 : gtB c0 4517329193108106637 = false) (x1 : gtB c1 4517329193108106637 = false)
    (k1 : Ieee.double.sub z1 z0 = some d) (k2 : Ieee.double.mul d t = some s2) (k3 : Ieee.double.add z0 s2 = some s3) (k4 : Ieee.double.sub zt s3 = some s4) (x2 : gtB (absW s4) 4517329193108106637 = false) (x3 : ltB z0 13740701229962882445 = false) (x4 : ltB z1 13740701229962882445 = false) (x5 : gtB z0 4649544402803767229 = false) (x6 : gtB z1 4649544402803767229 = false) (t0 : gtB z0 4645040803185192826 = true) (t1 : gtB z1 4645040803185192826 = false) (t2 : leB d 4517329193108106637 = true) (t3 : geB d 13868412840039968634 = true) :
    Calls Try.prog 9 #[.float .f64 a, .float .f64 b, .float .f64 t, .int .u8 3] w fun e w' => e = .returned (.bool true) ∧ Below w.heap.size w w' := by
  have q1 : (FloatKind.f64.format.order t 0 == some .gt || FloatKind.f64.format.order t 0 == some .eq) = true := h0
  have q2 : (FloatKind.f64.format.order t 4607182418800017408 == some .lt || FloatKind.f64.format.order t 4607182418800017408 == some .eq) = true := h1
  have q3 : (FloatKind.f64.format.order c0 4517329193108106637 == some .gt) = false := x0
  have q4 : (FloatKind.f64.format.order c1 4517329193108106637 == some .gt) = false := x1
  have q5 : (FloatKind.f64.format.order (absW s4) 4517329193108106637 == some .gt) = false := x2
  have q6 : (FloatKind.f64.format.order z0 13740701229962882445 == some .lt) = false := x3
  have q7 : (FloatKind.f64.format.order z1 13740701229962882445 == some .lt) = false := x4
  have q8 : (FloatKind.f64.format.order z0 4649544402803767229 == some .gt) = false := x5
  have q9 : (FloatKind.f64.format.order z1 4649544402803767229 == some .gt) = false := x6
  have p0 : (FloatKind.f64.format.order z0 4645040803185192826 == some .gt) = true := t0
  have p1 : (FloatKind.f64.format.order z1 4645040803185192826 == some .gt) = false := t1
  have p2 : (FloatKind.f64.format.order d 4517329193108106637 == some .lt || FloatKind.f64.format.order d 4517329193108106637 == some .eq) = true := t2
  have p3 : (FloatKind.f64.format.order d 13868412840039968634 == some .gt || FloatKind.f64.format.order d 13868412840039968634 == some .eq) = true := t3
  have m1 : ∀ w, (binOp .sub 22 (.float .f64 z1) (.float .f64 z0)).run Try.prog w = .ok (.float .f64 d) w := fun w => run_float_arith w .sub 22 .f64 _ _ _ k1
  have m2 : ∀ w, (binOp .mul 22 (.float .f64 d) (.float .f64 t)).run Try.prog w = .ok (.float .f64 s2) w := fun w => run_float_arith w .mul 22 .f64 _ _ _ k2
  have m3 : ∀ w, (binOp .add 22 (.float .f64 z0) (.float .f64 s2)).run Try.prog w = .ok (.float .f64 s3) w := fun w => run_float_arith w .add 22 .f64 _ _ _ k3
  have m4 : ∀ w, (binOp .sub 22 (.float .f64 zt) (.float .f64 s3)).run Try.prog w = .ok (.float .f64 s4) w := fun w => run_float_arith w .sub 22 .f64 _ _ _ k4
  clear h0 h1 x0 x1 x2 x3 x4 x5 x6 k1 k2 k3 k4 t0 t1 t2 t3
  go_enter Try.func9, Try.ntmps9
  go_wp2_with fail
  refine (bounded_any _ _).mono ?_
  rintro e w' ⟨rfl, rfl⟩
  rw [i1.out]
  go_wp2_with fail
  refine (bounded_any _ _).mono ?_
  rintro e w' ⟨rfl, rfl⟩
  rw [i2.out]
  go_wp2_with fail
  refine (H0.out _).mono ?_
  rintro e w1 ⟨rfl, b1⟩
  have B1 := Lib.hid b1
  clear b1
  go_wp2_with fail
  refine (H1.out _).mono ?_
  rintro e w2 ⟨rfl, b2⟩
  have B2 := Lib.hid b2
  clear b2
  go_wp2_with fail
  refine (HT.out _).mono ?_
  rintro e w3 ⟨rfl, b3⟩
  have B3 := Lib.hid (B1.out.trans ((B2.out.mono B1.out.size).trans (b3.mono (Nat.le_trans B1.out.size B2.out.size))))
  clear b3 B1 B2
  go_wp2_with fail
  refine (C0.out _).mono ?_
  rintro e w' ⟨rfl, rfl⟩
  go_wp2_with fail
  refine (C1.out _).mono ?_
  rintro e w' ⟨rfl, rfl⟩
  go_wp2_with (go_at_call 36; refine (zabs_any _ _).mono ?_; rintro e w' ⟨rfl, rfl⟩)
  go_ret
  exact ⟨rfl, B3.out⟩
set_option maxRecDepth 100000 in
set_option maxHeartbeats 4000000 in
theorem main4 (a b t z0 z1 zt c0 c1 d s2 s3 s4 : Nat) (m : Int) (hm : 4 ≤ m) (w : World) (i1 : Hid ((geB a milM && leB a 4696837146684686336) = true)) (i2 : Hid ((geB b milM && leB b 4696837146684686336) = true)) (h0 : geB t 0 = true) (h1 : leB t 4607182418800017408 = true)
    (H0 : Hid (∀ w, Calls Try.prog 34 #[.float .f64 a, .float .f64 b, .float .f64 0, .int .u8 m] w fun e w' => e = .returned (.float .f64 z0) ∧ Below w.heap.size w w')) (H1 : Hid (∀ w, Calls Try.prog 34 #[.float .f64 a, .float .f64 b, .float .f64 4607182418800017408, .int .u8 m] w fun e w' => e = .returned (.float .f64 z1) ∧ Below w.heap.size w w')) (HT : Hid (∀ w, Calls Try.prog 34 #[.float .f64 a, .float .f64 b, .float .f64 t, .int .u8 m] w fun e w' => e = .returned (.float .f64 zt) ∧ Below w.heap.size w w'))
    (C0 : Hid (∀ w, Calls Try.prog 35 #[.float .f64 z0, .float .f64 a] w fun e w' => e = .returned (.float .f64 c0) ∧ w = w')) (C1 : Hid (∀ w, Calls Try.prog 35 #[.float .f64 z1, .float .f64 b] w fun e w' => e = .returned (.float .f64 c1) ∧ w = w')) (x0 : gtB c0 4517329193108106637 = false) (x1 : gtB c1 4517329193108106637 = false)
    (k1 : Ieee.double.sub z1 z0 = some d) (k2 : Ieee.double.mul d t = some s2) (k3 : Ieee.double.add z0 s2 = some s3) (k4 : Ieee.double.sub zt s3 = some s4) (x2 : gtB (absW s4) 4517329193108106637 = false) (x3 : ltB z0 13740701229962882445 = false) (x4 : ltB z1 13740701229962882445 = false) (x5 : gtB z0 4649544402803767229 = false) (x6 : gtB z1 4649544402803767229 = false) (t0 : leB z0 4645040803185192826 = true) (t1 : leB z1 4645040803185192826 = true) :
    Calls Try.prog 9 #[.float .f64 a, .float .f64 b, .float .f64 t, .int .u8 m] w fun e w' => e = .returned (.bool true) ∧ Below w.heap.size w w' := by
  have n0 : (m == 0) = false := by simp; omega
  have n1 : (m == 1) = false := by simp; omega
  have n2 : (m == 2) = false := by simp; omega
  have n3 : (m == 3) = false := by simp; omega
  have n4 : ¬ m ≤ 3 := by omega
  clear hm
  have q1 : (FloatKind.f64.format.order t 0 == some .gt || FloatKind.f64.format.order t 0 == some .eq) = true := h0
  have q2 : (FloatKind.f64.format.order t 4607182418800017408 == some .lt || FloatKind.f64.format.order t 4607182418800017408 == some .eq) = true := h1
  have q3 : (FloatKind.f64.format.order c0 4517329193108106637 == some .gt) = false := x0
  have q4 : (FloatKind.f64.format.order c1 4517329193108106637 == some .gt) = false := x1
  have q5 : (FloatKind.f64.format.order (absW s4) 4517329193108106637 == some .gt) = false := x2
  have q6 : (FloatKind.f64.format.order z0 13740701229962882445 == some .lt) = false := x3
  have q7 : (FloatKind.f64.format.order z1 13740701229962882445 == some .lt) = false := x4
  have q8 : (FloatKind.f64.format.order z0 4649544402803767229 == some .gt) = false := x5
  have q9 : (FloatKind.f64.format.order z1 4649544402803767229 == some .gt) = false := x6
  have p0 : (FloatKind.f64.format.order z0 4645040803185192826 == some .lt || FloatKind.f64.format.order z0 4645040803185192826 == some .eq) = true := t0
  have p1 : (FloatKind.f64.format.order z1 4645040803185192826 == some .lt || FloatKind.f64.format.order z1 4645040803185192826 == some .eq) = true := t1
  have m1 : ∀ w, (binOp .sub 22 (.float .f64 z1) (.float .f64 z0)).run Try.prog w = .ok (.float .f64 d) w := fun w => run_float_arith w .sub 22 .f64 _ _ _ k1
  have m2 : ∀ w, (binOp .mul 22 (.float .f64 d) (.float .f64 t)).run Try.prog w = .ok (.float .f64 s2) w := fun w => run_float_arith w .mul 22 .f64 _ _ _ k2
  have m3 : ∀ w, (binOp .add 22 (.float .f64 z0) (.float .f64 s2)).run Try.prog w = .ok (.float .f64 s3) w := fun w => run_float_arith w .add 22 .f64 _ _ _ k3
  have m4 : ∀ w, (binOp .sub 22 (.float .f64 zt) (.float .f64 s3)).run Try.prog w = .ok (.float .f64 s4) w := fun w => run_float_arith w .sub 22 .f64 _ _ _ k4
  clear h0 h1 x0 x1 x2 x3 x4 x5 x6 k1 k2 k3 k4 t0 t1
  go_enter Try.func9, Try.ntmps9
  go_wp2_with fail
  refine (bounded_any _ _).mono ?_
  rintro e w' ⟨rfl, rfl⟩
  rw [i1.out]
  go_wp2_with fail
  refine (bounded_any _ _).mono ?_
  rintro e w' ⟨rfl, rfl⟩
  rw [i2.out]
  go_wp2_with fail
  refine (H0.out _).mono ?_
  rintro e w1 ⟨rfl, b1⟩
  have B1 := Lib.hid b1
  clear b1
  go_wp2_with fail
  refine (H1.out _).mono ?_
  rintro e w2 ⟨rfl, b2⟩
  have B2 := Lib.hid b2
  clear b2
  go_wp2_with fail
  refine (HT.out _).mono ?_
  rintro e w3 ⟨rfl, b3⟩
  have B3 := Lib.hid (B1.out.trans ((B2.out.mono B1.out.size).trans (b3.mono (Nat.le_trans B1.out.size B2.out.size))))
  clear b3 B1 B2
  go_wp2_with fail
  refine (C0.out _).mono ?_
  rintro e w' ⟨rfl, rfl⟩
  go_wp2_with fail
  refine (C1.out _).mono ?_
  rintro e w' ⟨rfl, rfl⟩
  go_wp2_with (go_at_call 36; refine (zabs_any _ _).mono ?_; rintro e w' ⟨rfl, rfl⟩)
  go_ret
  exact ⟨rfl, B3.out⟩
theorem cMil : Finite 4696837146684686336 ∧ val 4696837146684686336 = 1000000 := by constructor <;> decide +kernel
theorem in_fin {x : Nat} (hx : x < 2 ^ 64) (h : (geB x milM && leB x 4696837146684686336) = true) : Finite x ∧ -1000000 ≤ val x ∧ val x ≤ 1000000 := by
  simp only [Bool.and_eq_true] at h
  obtain ⟨fc, vc⟩ := cMil
  have fm : Finite milM := flip_fin _ fc
  have vm : val milM = - val 4696837146684686336 := flip_val _ fc.1
  obtain ⟨h1, h2, h3⟩ := finite_between hx fm fc h.1 h.2
  rw [vm] at h2
  exact ⟨h1, by grind, by grind⟩

set_option maxRecDepth 100000 in
set_option maxHeartbeats 4000000 in
/-- THE WALK -/
theorem walk (a0 : Nat) (a1 : Nat) (a2 : Nat) (a3 : Int) (w : World) (w0 : (Lit.float .f64 a0).wf = true) (w1 : (Lit.float .f64 a1).wf = true) (w2 : (Lit.float .f64 a2).wf = true) (w3 : (Lit.int .u8 a3).wf = true) :
    Calls Try.prog 9 #[.float .f64 a0, .float .f64 a1, .float .f64 a2, .int .u8 a3] w fun e w' => e = .returned (.bool true) ∧ Below w.heap.size w w' := by
  have hx0 : a0 < 2 ^ 64 := by simpa [Lit.wf] using w0
  have hx1 : a1 < 2 ^ 64 := by simpa [Lit.wf] using w1
  have hx2 : a2 < 2 ^ 64 := by simpa [Lit.wf] using w2
  have hm : 0 ≤ a3 := by
    have : IntKind.u8.min ≤ a3 ∧ a3 ≤ IntKind.u8.max := by simpa [Lit.wf] using w3
    exact this.1
  cases i1 : (geB a0 milM && leB a0 4696837146684686336) with
  | false => exact out1 a0 a1 a2 a3 w (Lib.hid i1)
  | true =>
  cases i2 : (geB a1 milM && leB a1 4696837146684686336) with
  | false => exact out2 a0 a1 a2 a3 w (Lib.hid i1) (Lib.hid i2)
  | true =>
  cases h0 : geB a2 0 with
  | false => exact out3 a0 a1 a2 a3 w (Lib.hid i1) (Lib.hid i2) h0
  | true =>
  cases h1 : leB a2 4607182418800017408 with
  | false => exact out4 a0 a1 a2 a3 w (Lib.hid i1) (Lib.hid i2) h0 h1
  | true =>
  obtain ⟨f0, l1, l2⟩ := in_fin hx0 i1
  obtain ⟨f1, l3, l4⟩ := in_fin hx1 i2
  obtain ⟨fo, vo⟩ := cOne
  obtain ⟨f2, t1, t2⟩ := finite_between hx2 fin_zero fo h0 h1
  rw [val_zero] at t1
  rw [vo] at t2
  obtain ⟨A, B, ⟨fA, fB, hst⟩, hE, ⟨ka, ka1, ka2⟩, ⟨kb, kb1, kb2⟩⟩ := ends49 a0 a1 a3 hm f0 f1 l1 l2 l3 l4
  obtain ⟨z0, H0, fz0, z01, z02⟩ := hst 0 fin_zero (by rw [val_zero]; exact Rat.le_refl) (by rw [val_zero]; decide +kernel)
  obtain ⟨z1, H1, fz1, z11, z12⟩ := hst 4607182418800017408 fo (by rw [vo]; decide +kernel) (by rw [vo]; exact Rat.le_refl)
  obtain ⟨zt, HT, fzt, zt1, zt2⟩ := hst a2 f2 t1 t2
  rw [val_zero] at z01 z02
  rw [vo] at z11 z12
  have hE' := hE
  obtain ⟨E1, E2, E3, E4, -⟩ := hE'
  obtain ⟨c0, C0, x0⟩ := zcirc_any z0 a0 ka fz0 f0 (by grind) (by grind) l1 l2 (by grind) (by grind)
  obtain ⟨c1, C1, x1⟩ := zcirc_any z1 a1 kb fz1 f1 (by grind) (by grind) l3 l4 (by grind) (by grind)
  obtain ⟨d, s2, s3, s4, k1, k2, k3, k4, x2, x3, x4, x5, x6, y0, y1, y2, y3, y4, y5⟩ := tests49 a3 (val A) (val B) (val a2) z0 z1 zt a2 hE fz0 fz1 fzt f2 rfl t1 t2 (by grind) (by grind) (by grind) (by grind) zt1 zt2
  clear hE E1 E2 E3 E4 z01 z02 z11 z12 zt1 zt2 ka1 ka2 kb1 kb2 hst fA fB
  rcases (by omega : a3 = 0 ∨ a3 = 1 ∨ a3 = 2 ∨ a3 = 3 ∨ 4 ≤ a3) with rfl | rfl | rfl | rfl | h4
  · rcases y0 (by decide) with g | ⟨g, g'⟩
    · exact main0a a0 a1 a2 z0 z1 zt c0 c1 d s2 s3 s4 w (Lib.hid i1) (Lib.hid i2) h0 h1 (Lib.hid H0) (Lib.hid H1) (Lib.hid HT) (Lib.hid C0) (Lib.hid C1) x0 x1 k1 k2 k3 k4 x2 x3 x4 x5 x6 g (y1 rfl)
    · exact main0b a0 a1 a2 z0 z1 zt c0 c1 d s2 s3 s4 w (Lib.hid i1) (Lib.hid i2) h0 h1 (Lib.hid H0) (Lib.hid H1) (Lib.hid HT) (Lib.hid C0) (Lib.hid C1) x0 x1 k1 k2 k3 k4 x2 x3 x4 x5 x6 g g' (y1 rfl)
  · rcases y0 (by decide) with g | ⟨g, g'⟩
    · exact main1a a0 a1 a2 z0 z1 zt c0 c1 d s2 s3 s4 w (Lib.hid i1) (Lib.hid i2) h0 h1 (Lib.hid H0) (Lib.hid H1) (Lib.hid HT) (Lib.hid C0) (Lib.hid C1) x0 x1 k1 k2 k3 k4 x2 x3 x4 x5 x6 g (y2 rfl).1 (y2 rfl).2
    · exact main1b a0 a1 a2 z0 z1 zt c0 c1 d s2 s3 s4 w (Lib.hid i1) (Lib.hid i2) h0 h1 (Lib.hid H0) (Lib.hid H1) (Lib.hid HT) (Lib.hid C0) (Lib.hid C1) x0 x1 k1 k2 k3 k4 x2 x3 x4 x5 x6 g g' (y2 rfl).1 (y2 rfl).2
  · rcases y0 (by decide) with g | ⟨g, g'⟩
    · exact main2a a0 a1 a2 z0 z1 zt c0 c1 d s2 s3 s4 w (Lib.hid i1) (Lib.hid i2) h0 h1 (Lib.hid H0) (Lib.hid H1) (Lib.hid HT) (Lib.hid C0) (Lib.hid C1) x0 x1 k1 k2 k3 k4 x2 x3 x4 x5 x6 g (y3 rfl).1 (y3 rfl).2
    · exact main2b a0 a1 a2 z0 z1 zt c0 c1 d s2 s3 s4 w (Lib.hid i1) (Lib.hid i2) h0 h1 (Lib.hid H0) (Lib.hid H1) (Lib.hid HT) (Lib.hid C0) (Lib.hid C1) x0 x1 k1 k2 k3 k4 x2 x3 x4 x5 x6 g g' (y3 rfl).1 (y3 rfl).2
  · rcases y0 (by decide) with g | ⟨g, g'⟩
    · exact main3a a0 a1 a2 z0 z1 zt c0 c1 d s2 s3 s4 w (Lib.hid i1) (Lib.hid i2) h0 h1 (Lib.hid H0) (Lib.hid H1) (Lib.hid HT) (Lib.hid C0) (Lib.hid C1) x0 x1 k1 k2 k3 k4 x2 x3 x4 x5 x6 g (y4 rfl).1 (y4 rfl).2
    · exact main3b a0 a1 a2 z0 z1 zt c0 c1 d s2 s3 s4 w (Lib.hid i1) (Lib.hid i2) h0 h1 (Lib.hid H0) (Lib.hid H1) (Lib.hid HT) (Lib.hid C0) (Lib.hid C1) x0 x1 k1 k2 k3 k4 x2 x3 x4 x5 x6 g g' (y4 rfl).1 (y4 rfl).2
  · exact main4 a0 a1 a2 z0 z1 zt c0 c1 d s2 s3 s4 a3 h4 w (Lib.hid i1) (Lib.hid i2) h0 h1 (Lib.hid H0) (Lib.hid H1) (Lib.hid HT) (Lib.hid C0) (Lib.hid C1) x0 x1 k1 k2 k3 k4 x2 x3 x4 x5 x6 (y5 h4).1 (y5 h4).2

set_option maxRecDepth 100000 in
theorem lifted (os : Os) (started : os.Started) (H : Type) (enc : TypeId × Value → H) :
    ReturnsInHanded {} Try.checked os 9 .any (Rows.fnInterpolateHuesCaseTableSpec.pre6 enc Try.prog Try.f9 Rows.fnInterpolateHuesCaseTableRow.domain false) (Rows.fnInterpolateHuesCaseTableSpec.post enc Try.prog Try.f9 false true false false) := by
  refine returnsInHanded_of_change (C := Try.checked) own started (by kernel_rfl) Try.func9
    (ChangeSpec.witness6 (enc := enc) (C := Try.checked) false ⟨#[], #[.float .f64 0, .float .f64 0, .float .f64 0, .int .u8 0], []⟩ 8 (by kernel_rfl) (by kernel_rfl) (by kernel_rfl) (by kernel_rfl)) ?_
  intro W base args ds gs before hval0 hW hcnd _
  have hval : ∀ (j : Nat) t v, Try.f9.params[j]? = some t → args[j]? = some v → Value.okWide Try.prog W .any base t v := hval0
  have hW' := hW
  obtain ⟨p, q, hA0, hV, rfl, hfz, hnd⟩ := hW
  have hA : DataW.TrodAll enc Try.prog W 0 (fun _ => true) true Try.f9.params.toList args.toList ds p := hA0
  rw [Try.params9] at hA hval
  obtain ⟨v0, vs0, d0, ds0, p0, q0, hargs, rfl, rfl, h0, r0⟩ := trodAll_cons hA
  obtain ⟨v1, vs1, d1, ds1, p1, q1, rfl, rfl, rfl, h1, r1⟩ := trodAll_cons r0
  obtain ⟨v2, vs2, d2, ds2, p2, q2, rfl, rfl, rfl, h2, r2⟩ := trodAll_cons r1
  obtain ⟨v3, vs3, d3, ds3, p3, q3, rfl, rfl, rfl, h3, r3⟩ := trodAll_cons r2
  obtain ⟨rfl, rfl, rfl⟩ := trodAll_nil r3
  obtain rfl : args = #[v0, v1, v2, v3] := by cases args; simp_all
  obtain ⟨rfl, rfl⟩ := trodVars_none hV
  obtain ⟨a0, rfl, rfl, rfl, w0⟩ := open_float Try.underlying22 (hval 0 22 v0 rfl rfl) h0
  obtain ⟨a1, rfl, rfl, rfl, w1⟩ := open_float Try.underlying22 (hval 1 22 v1 rfl rfl) h1
  obtain ⟨a2, rfl, rfl, rfl, w2⟩ := open_float Try.underlying22 (hval 2 22 v2 rfl rfl) h2
  obtain ⟨a3, rfl, rfl, rfl, w3⟩ := open_int Try.underlying5 (hval 3 5 v3 rfl rfl) h3
  clear hA0 hval0
  refine (walk a0 a1 a2 a3 W w0 w1 w2 w3).mono fun e W' ⟨he, bel⟩ => ?_
  subst he
  exact ⟨_, rfl, _, _, _, [], _, [], hW', trodAll_mk1 (shut_bool Try.underlying4 _), (trodAll_cons_mk (shut_float Try.underlying22 w0) (trodAll_cons_mk (shut_float Try.underlying22 w1) (trodAll_cons_mk (shut_float Try.underlying22 w2) (trodAll_cons_mk (shut_int Try.underlying5 w3) trodAll_mk0)))), rfl, bel.frame _, fun h => by cases h⟩

theorem over : Rows.fnInterpolateHuesCaseTableRow.holds Try.pinned (OpenSpec.ofChange Rows.fnInterpolateHuesCaseTableSpec) :=
  OpenClaim.holds_of_wide 9 Try.f9 rfl rfl rfl rfl rfl rfl rfl ⟨rfl, rfl, rfl, rfl, rfl⟩ rfl rfl rfl rfl rfl (by kernel_rfl) Try.func9 (by kernel_rfl)
    (of_decide_eq_true (by kernel_rfl)) (by unfold Func.isWrapper; first | (rw [if_pos (by decide +kernel)]; kernel_rfl) | (rw [if_neg (by decide +kernel)]; exact ⟨rfl, rfl⟩))
    (fun os started H enc _ => lifted os started H enc)

/-- THE STATEMENT -/
theorem proved : Rows.FnInterpolateHuesCaseTableSaid := over
#print axioms proved
end Go.Proofs.Ytafeeebgleecfaa.fnInterpolateHuesCaseTable
