/-
  oklab_to_oklch keeps lightness, bounds chroma, and gives the hue in the half plane and quadrant of the signs; for a and b zero or of magnitude within 1e-100 to 1e100 (elsewhere the law asks nothing).
-/
import Derived.Test.YtafeeebgleecfaaRows
import Derived.WalkKit
import Derived.ProofKit
import Derived.OpenShut
import Derived.ShutString
import Derived.ChangeOld
import Derived.Below
import Derived.Lib.Hide
import Derived.Outline
import Derived.Laws.Cover2
import Derived.Laws.FloatArith
import Derived.Test.YtafeeebgleecfaaPs
namespace Go.Proofs.Ytafeeebgleecfaa.fnOklabToOklchBoundsAndHueHalfPlanes
open Go.ChangeShapes Go.WideShapes Go.ChangeAt Go.RowKit
open Go.ChangeMaps (open_string shut_string)
set_option linter.unusedVariables false

theorem own : ownKnob Try.prog.godebug = none := by kernel_rfl
theorem laidOut : laidOutB Try.prog = true := by kernel_rfl

open Mat FL
set_option maxHeartbeats 400000 in
theorem zabs_any (x : Nat) (w : World) : Calls Try.prog 40 #[.float .f64 x] w fun e w' => e = .returned (.float .f64 (absW x)) ∧ w = w' := by
  cases h : ltB x 0 with
  | true =>
    have q : (FloatKind.f64.format.order x 0 == some .lt) = true := h
    have hn : ∀ w, (Op.unary .neg (.float .f64 x)).run Try.prog w = .ok (.float .f64 (FL.flip x)) w := fun w => rfl
    have e : absW x = FL.flip x := by unfold absW; rw [h]; rfl
    rw [e]
    clear h e
    go_enter Try.func40, Try.ntmps40
    go_wp2
    go_ret
    exact ⟨rfl, rfl⟩
  | false =>
    have q : (FloatKind.f64.format.order x 0 == some .lt) = false := h
    have e : absW x = x := by unfold absW; rw [h]; rfl
    rw [e]
    clear h e
    go_enter Try.func40, Try.ntmps40
    go_wp2
    go_ret
    exact ⟨rfl, rfl⟩
def magB (x : Nat) : Bool := eqB x 0 || (geB (absW x) 3110860544497550640 && leB (absW x) 6103021453049119613)
set_option maxHeartbeats 800000 in
theorem mag_any (x : Nat) (w : World) : Calls Try.prog 37 #[.float .f64 x] w fun e w' => e = .returned (.bool (magB x)) ∧ w = w' := by
  cases h : eqB x 0 with
  | true =>
    have q : (FloatKind.f64.format.order x 0 == some .eq) = true := h
    have e : magB x = true := by unfold magB; rw [h]; rfl
    rw [e]
    clear h e
    go_enter Try.func37, Try.ntmps37
    go_wp2
    go_ret
    exact ⟨rfl, rfl⟩
  | false =>
    have q : (FloatKind.f64.format.order x 0 == some .eq) = false := h
    cases h1 : geB (absW x) 3110860544497550640 with
    | false =>
      have q1 : (FloatKind.f64.format.order (absW x) 3110860544497550640 == some .gt || FloatKind.f64.format.order (absW x) 3110860544497550640 == some .eq) = false := h1
      have e : magB x = false := by unfold magB; rw [h, h1]; rfl
      rw [e]
      have HA := zabs_any x
      generalize absW x = y at *
      clear h h1 e
      go_enter Try.func37, Try.ntmps37
      go_wp2_with (go_at_call 40; refine (HA _).mono ?_; rintro e w' ⟨rfl, rfl⟩)
      go_ret
      exact ⟨rfl, rfl⟩
    | true =>
      have q1 : (FloatKind.f64.format.order (absW x) 3110860544497550640 == some .gt || FloatKind.f64.format.order (absW x) 3110860544497550640 == some .eq) = true := h1
      cases h2 : leB (absW x) 6103021453049119613 with
      | false =>
        have q2 : (FloatKind.f64.format.order (absW x) 6103021453049119613 == some .lt || FloatKind.f64.format.order (absW x) 6103021453049119613 == some .eq) = false := h2
        have e : magB x = false := by unfold magB; rw [h, h1, h2]; rfl
        rw [e]
        have HA := zabs_any x
        generalize absW x = y at *
        clear h h1 h2 e
        go_enter Try.func37, Try.ntmps37
        go_wp2_with (go_at_call 40; refine (HA _).mono ?_; rintro e w' ⟨rfl, rfl⟩)
        go_ret
        exact ⟨rfl, rfl⟩
      | true =>
        have q2 : (FloatKind.f64.format.order (absW x) 6103021453049119613 == some .lt || FloatKind.f64.format.order (absW x) 6103021453049119613 == some .eq) = true := h2
        have e : magB x = true := by unfold magB; rw [h, h1, h2]; rfl
        rw [e]
        have HA := zabs_any x
        generalize absW x = y at *
        clear h h1 h2 e
        go_enter Try.func37, Try.ntmps37
        go_wp2_with (go_at_call 40; refine (HA _).mono ?_; rintro e w' ⟨rfl, rfl⟩)
        go_ret
        exact ⟨rfl, rfl⟩
set_option maxHeartbeats 800000 in
theorem same_any (x : Nat) (w : World) : Calls Try.prog 39 #[.float .f64 x, .float .f64 x] w fun e w' => e = .returned (.bool true) ∧ w = w' := by
  cases h : eqB x x with
  | true =>
    have q : (FloatKind.f64.format.order x x == some .eq) = true := h
    clear h
    go_enter Try.func39, Try.ntmps39
    go_wp2
    go_ret
    exact ⟨rfl, rfl⟩
  | false =>
    have q : (FloatKind.f64.format.order x x == some .eq) = false := h
    have q1 : (FloatKind.f64.format.order x x != some .eq) = true := neq_ok h
    clear h
    go_enter Try.func39, Try.ntmps39
    go_wp2
    go_ret
    exact ⟨rfl, rfl⟩
set_option maxRecDepth 100000 in
set_option maxHeartbeats 4000000 in
theorem out1 (l a b : Nat) (w : World) (i1 : Hid (magB a = false)) : Calls Try.prog 10 #[.float .f64 l, .float .f64 a, .float .f64 b] w fun e w' => e = .returned (.bool true) ∧ Below w.heap.size w w' := by
  go_enter Try.func10, Try.ntmps10
  go_wp2_with fail
  refine (mag_any _ _).mono ?_
  rintro e w' ⟨rfl, rfl⟩
  rw [i1.out]
  go_wp2
  go_ret
  exact ⟨rfl, Below.refl _ _⟩
set_option maxRecDepth 100000 in
set_option maxHeartbeats 4000000 in
theorem out2 (l a b : Nat) (w : World) (i1 : Hid (magB a = true)) (i2 : Hid (magB b = false)) : Calls Try.prog 10 #[.float .f64 l, .float .f64 a, .float .f64 b] w fun e w' => e = .returned (.bool true) ∧ Below w.heap.size w w' := by
  go_enter Try.func10, Try.ntmps10
  go_wp2_with fail
  refine (mag_any _ _).mono ?_
  rintro e w' ⟨rfl, rfl⟩
  rw [i1.out]
  go_wp2_with fail
  refine (mag_any _ _).mono ?_
  rintro e w' ⟨rfl, rfl⟩
  rw [i2.out]
  go_wp2
  go_ret
  exact ⟨rfl, Below.refl _ _⟩
set_option maxRecDepth 100000 in
set_option maxHeartbeats 4000000 in
theorem main_pp (l a b c h s1 s2 : Nat) (w : World) (i1 : Hid (magB a = true)) (i2 : Hid (magB b = true))
    (HC : Hid (∀ w, Calls Try.prog 38 #[.float .f64 l, .float .f64 a, .float .f64 b] w fun e w' => e = .returned (.tuple #[.float .f64 l, .float .f64 c, .float .f64 h]) ∧ Below w.heap.size w w'))
    (k1 : Ieee.double.add (absW a) (absW b) = some s1) (k2 : Ieee.double.mul s1 4607182418800017413 = some s2) (t0 : geB c (absW a) = true) (t1 : geB c (absW b) = true) (t2 : leB c s2 = true) (t3 : eqB a 0 = false) (t4 : geB h 0 = true) (t5 : leB h 4645040803167600640 = true) (t6 : gtB b 0 = true) (t7 : gtB h 0 = true) (t8 : leB h 4640537203540265328 = true) (t9 : gtB a 0 = true) (t10 : gtB h 4636033603912930017 = false) (t11 : ltB a 0 = false) : Calls Try.prog 10 #[.float .f64 l, .float .f64 a, .float .f64 b] w fun e w' => e = .returned (.bool true) ∧ Below w.heap.size w w' := by
  have q0 : (FloatKind.f64.format.order c (absW a) == some .gt || FloatKind.f64.format.order c (absW a) == some .eq) = true := t0
  have q1 : (FloatKind.f64.format.order c (absW b) == some .gt || FloatKind.f64.format.order c (absW b) == some .eq) = true := t1
  have q2 : (FloatKind.f64.format.order c s2 == some .lt || FloatKind.f64.format.order c s2 == some .eq) = true := t2
  have q3 : (FloatKind.f64.format.order a 0 == some .eq) = false := t3
  have q4 : (FloatKind.f64.format.order h 0 == some .gt || FloatKind.f64.format.order h 0 == some .eq) = true := t4
  have q5 : (FloatKind.f64.format.order h 4645040803167600640 == some .lt || FloatKind.f64.format.order h 4645040803167600640 == some .eq) = true := t5
  have q6 : (FloatKind.f64.format.order b 0 == some .gt) = true := t6
  have q7 : (FloatKind.f64.format.order h 0 == some .gt) = true := t7
  have q8 : (FloatKind.f64.format.order h 4640537203540265328 == some .lt || FloatKind.f64.format.order h 4640537203540265328 == some .eq) = true := t8
  have q9 : (FloatKind.f64.format.order a 0 == some .gt) = true := t9
  have q10 : (FloatKind.f64.format.order h 4636033603912930017 == some .gt) = false := t10
  have q11 : (FloatKind.f64.format.order a 0 == some .lt) = false := t11
  have HA := Lib.hid (zabs_any a)
  have HB := Lib.hid (zabs_any b)
  clear t0 t1 t2 t3 t4 t5 t6 t7 t8 t9 t10 t11
  generalize absW a = aa at *
  generalize absW b = ab at *
  have m1 : ∀ w, (binOp .add 22 (.float .f64 aa) (.float .f64 ab)).run Try.prog w = .ok (.float .f64 s1) w := fun w => run_float_arith w .add 22 .f64 _ _ _ k1
  have m2 : ∀ w, (binOp .mul 22 (.float .f64 s1) (.float .f64 4607182418800017413)).run Try.prog w = .ok (.float .f64 s2) w := fun w => run_float_arith w .mul 22 .f64 _ _ _ k2
  clear k1 k2
  go_enter Try.func10, Try.ntmps10
  go_wp2_with fail
  refine (mag_any _ _).mono ?_
  rintro e w' ⟨rfl, rfl⟩
  rw [i1.out]
  go_wp2_with fail
  refine (mag_any _ _).mono ?_
  rintro e w' ⟨rfl, rfl⟩
  rw [i2.out]
  go_wp2_with fail
  refine (HC.out _).mono ?_
  rintro e w1 ⟨rfl, hb⟩
  have HBl := Lib.hid hb
  clear hb
  go_wp2_with fail
  refine (same_any _ _).mono ?_
  rintro e w' ⟨rfl, rfl⟩
  go_wp2_with fail
  refine (HA.out _).mono ?_
  rintro e w' ⟨rfl, rfl⟩
  go_wp2_with fail
  refine (HB.out _).mono ?_
  rintro e w' ⟨rfl, rfl⟩
  go_wp2
  go_ret
  exact ⟨rfl, HBl.out⟩
set_option maxRecDepth 100000 in
set_option maxHeartbeats 4000000 in
theorem main_np (l a b c h s1 s2 : Nat) (w : World) (i1 : Hid (magB a = true)) (i2 : Hid (magB b = true))
    (HC : Hid (∀ w, Calls Try.prog 38 #[.float .f64 l, .float .f64 a, .float .f64 b] w fun e w' => e = .returned (.tuple #[.float .f64 l, .float .f64 c, .float .f64 h]) ∧ Below w.heap.size w w'))
    (k1 : Ieee.double.add (absW a) (absW b) = some s1) (k2 : Ieee.double.mul s1 4607182418800017413 = some s2) (t0 : geB c (absW a) = true) (t1 : geB c (absW b) = true) (t2 : leB c s2 = true) (t3 : eqB a 0 = false) (t4 : geB h 0 = true) (t5 : leB h 4645040803167600640 = true) (t6 : gtB b 0 = true) (t7 : gtB h 0 = true) (t8 : leB h 4640537203540265328 = true) (t9 : gtB a 0 = false) (t10 : ltB a 0 = true) (t11 : ltB h 4636033603912789279 = false) : Calls Try.prog 10 #[.float .f64 l, .float .f64 a, .float .f64 b] w fun e w' => e = .returned (.bool true) ∧ Below w.heap.size w w' := by
  have q0 : (FloatKind.f64.format.order c (absW a) == some .gt || FloatKind.f64.format.order c (absW a) == some .eq) = true := t0
  have q1 : (FloatKind.f64.format.order c (absW b) == some .gt || FloatKind.f64.format.order c (absW b) == some .eq) = true := t1
  have q2 : (FloatKind.f64.format.order c s2 == some .lt || FloatKind.f64.format.order c s2 == some .eq) = true := t2
  have q3 : (FloatKind.f64.format.order a 0 == some .eq) = false := t3
  have q4 : (FloatKind.f64.format.order h 0 == some .gt || FloatKind.f64.format.order h 0 == some .eq) = true := t4
  have q5 : (FloatKind.f64.format.order h 4645040803167600640 == some .lt || FloatKind.f64.format.order h 4645040803167600640 == some .eq) = true := t5
  have q6 : (FloatKind.f64.format.order b 0 == some .gt) = true := t6
  have q7 : (FloatKind.f64.format.order h 0 == some .gt) = true := t7
  have q8 : (FloatKind.f64.format.order h 4640537203540265328 == some .lt || FloatKind.f64.format.order h 4640537203540265328 == some .eq) = true := t8
  have q9 : (FloatKind.f64.format.order a 0 == some .gt) = false := t9
  have q10 : (FloatKind.f64.format.order a 0 == some .lt) = true := t10
  have q11 : (FloatKind.f64.format.order h 4636033603912789279 == some .lt) = false := t11
  have HA := Lib.hid (zabs_any a)
  have HB := Lib.hid (zabs_any b)
  clear t0 t1 t2 t3 t4 t5 t6 t7 t8 t9 t10 t11
  generalize absW a = aa at *
  generalize absW b = ab at *
  have m1 : ∀ w, (binOp .add 22 (.float .f64 aa) (.float .f64 ab)).run Try.prog w = .ok (.float .f64 s1) w := fun w => run_float_arith w .add 22 .f64 _ _ _ k1
  have m2 : ∀ w, (binOp .mul 22 (.float .f64 s1) (.float .f64 4607182418800017413)).run Try.prog w = .ok (.float .f64 s2) w := fun w => run_float_arith w .mul 22 .f64 _ _ _ k2
  clear k1 k2
  go_enter Try.func10, Try.ntmps10
  go_wp2_with fail
  refine (mag_any _ _).mono ?_
  rintro e w' ⟨rfl, rfl⟩
  rw [i1.out]
  go_wp2_with fail
  refine (mag_any _ _).mono ?_
  rintro e w' ⟨rfl, rfl⟩
  rw [i2.out]
  go_wp2_with fail
  refine (HC.out _).mono ?_
  rintro e w1 ⟨rfl, hb⟩
  have HBl := Lib.hid hb
  clear hb
  go_wp2_with fail
  refine (same_any _ _).mono ?_
  rintro e w' ⟨rfl, rfl⟩
  go_wp2_with fail
  refine (HA.out _).mono ?_
  rintro e w' ⟨rfl, rfl⟩
  go_wp2_with fail
  refine (HB.out _).mono ?_
  rintro e w' ⟨rfl, rfl⟩
  go_wp2
  go_ret
  exact ⟨rfl, HBl.out⟩
set_option maxRecDepth 100000 in
set_option maxHeartbeats 4000000 in
theorem main_zp (l a b c h s1 s2 d : Nat) (w : World) (i1 : Hid (magB a = true)) (i2 : Hid (magB b = true))
    (HC : Hid (∀ w, Calls Try.prog 38 #[.float .f64 l, .float .f64 a, .float .f64 b] w fun e w' => e = .returned (.tuple #[.float .f64 l, .float .f64 c, .float .f64 h]) ∧ Below w.heap.size w w'))
    (k1 : Ieee.double.add (absW a) (absW b) = some s1) (k2 : Ieee.double.mul s1 4607182418800017413 = some s2) (k3 : Ieee.double.sub h 4636033603912859648 = some d) (t0 : geB c (absW a) = true) (t1 : geB c (absW b) = true) (t2 : leB c s2 = true) (t3 : eqB a 0 = true) (t4 : eqB b 0 = false) (t5 : geB h 0 = true) (t6 : leB h 4645040803167600640 = true) (t7 : gtB b 0 = true) (t8 : gtB h 0 = true) (t9 : leB h 4640537203540265328 = true) (t10 : gtB a 0 = false) (t11 : ltB a 0 = false) (t12 : gtB (absW d) 4472406533629990549 = false) : Calls Try.prog 10 #[.float .f64 l, .float .f64 a, .float .f64 b] w fun e w' => e = .returned (.bool true) ∧ Below w.heap.size w w' := by
  have q0 : (FloatKind.f64.format.order c (absW a) == some .gt || FloatKind.f64.format.order c (absW a) == some .eq) = true := t0
  have q1 : (FloatKind.f64.format.order c (absW b) == some .gt || FloatKind.f64.format.order c (absW b) == some .eq) = true := t1
  have q2 : (FloatKind.f64.format.order c s2 == some .lt || FloatKind.f64.format.order c s2 == some .eq) = true := t2
  have q3 : (FloatKind.f64.format.order a 0 == some .eq) = true := t3
  have q4 : (FloatKind.f64.format.order b 0 == some .eq) = false := t4
  have q5 : (FloatKind.f64.format.order h 0 == some .gt || FloatKind.f64.format.order h 0 == some .eq) = true := t5
  have q6 : (FloatKind.f64.format.order h 4645040803167600640 == some .lt || FloatKind.f64.format.order h 4645040803167600640 == some .eq) = true := t6
  have q7 : (FloatKind.f64.format.order b 0 == some .gt) = true := t7
  have q8 : (FloatKind.f64.format.order h 0 == some .gt) = true := t8
  have q9 : (FloatKind.f64.format.order h 4640537203540265328 == some .lt || FloatKind.f64.format.order h 4640537203540265328 == some .eq) = true := t9
  have q10 : (FloatKind.f64.format.order a 0 == some .gt) = false := t10
  have q11 : (FloatKind.f64.format.order a 0 == some .lt) = false := t11
  have q12 : (FloatKind.f64.format.order (absW d) 4472406533629990549 == some .gt) = false := t12
  have HA := Lib.hid (zabs_any a)
  have HB := Lib.hid (zabs_any b)
  have HD := Lib.hid (zabs_any d)
  clear t0 t1 t2 t3 t4 t5 t6 t7 t8 t9 t10 t11 t12
  generalize absW d = ad at *
  generalize absW a = aa at *
  generalize absW b = ab at *
  have m1 : ∀ w, (binOp .add 22 (.float .f64 aa) (.float .f64 ab)).run Try.prog w = .ok (.float .f64 s1) w := fun w => run_float_arith w .add 22 .f64 _ _ _ k1
  have m2 : ∀ w, (binOp .mul 22 (.float .f64 s1) (.float .f64 4607182418800017413)).run Try.prog w = .ok (.float .f64 s2) w := fun w => run_float_arith w .mul 22 .f64 _ _ _ k2
  have m3 : ∀ w, (binOp .sub 22 (.float .f64 h) (.float .f64 4636033603912859648)).run Try.prog w = .ok (.float .f64 d) w := fun w => run_float_arith w .sub 22 .f64 _ _ _ k3
  clear k3
  clear k1 k2
  go_enter Try.func10, Try.ntmps10
  go_wp2_with fail
  refine (mag_any _ _).mono ?_
  rintro e w' ⟨rfl, rfl⟩
  rw [i1.out]
  go_wp2_with fail
  refine (mag_any _ _).mono ?_
  rintro e w' ⟨rfl, rfl⟩
  rw [i2.out]
  go_wp2_with fail
  refine (HC.out _).mono ?_
  rintro e w1 ⟨rfl, hb⟩
  have HBl := Lib.hid hb
  clear hb
  go_wp2_with fail
  refine (same_any _ _).mono ?_
  rintro e w' ⟨rfl, rfl⟩
  go_wp2_with fail
  refine (HA.out _).mono ?_
  rintro e w' ⟨rfl, rfl⟩
  go_wp2_with fail
  refine (HB.out _).mono ?_
  rintro e w' ⟨rfl, rfl⟩
  go_wp2_with fail
  refine (HD.out _).mono ?_
  rintro e w' ⟨rfl, rfl⟩
  go_wp2
  go_ret
  exact ⟨rfl, HBl.out⟩
set_option maxRecDepth 100000 in
set_option maxHeartbeats 4000000 in
theorem main_pn (l a b c h s1 s2 : Nat) (w : World) (i1 : Hid (magB a = true)) (i2 : Hid (magB b = true))
    (HC : Hid (∀ w, Calls Try.prog 38 #[.float .f64 l, .float .f64 a, .float .f64 b] w fun e w' => e = .returned (.tuple #[.float .f64 l, .float .f64 c, .float .f64 h]) ∧ Below w.heap.size w w'))
    (k1 : Ieee.double.add (absW a) (absW b) = some s1) (k2 : Ieee.double.mul s1 4607182418800017413 = some s2) (t0 : geB c (absW a) = true) (t1 : geB c (absW b) = true) (t2 : leB c s2 = true) (t3 : eqB a 0 = false) (t4 : geB h 0 = true) (t5 : leB h 4645040803167600640 = true) (t6 : gtB b 0 = false) (t7 : ltB b 0 = true) (t8 : geB h 4640537203540194960 = true) (t9 : gtB a 0 = true) (t10 : ltB h 4643457506423585608 = false) (t11 : ltB a 0 = false) : Calls Try.prog 10 #[.float .f64 l, .float .f64 a, .float .f64 b] w fun e w' => e = .returned (.bool true) ∧ Below w.heap.size w w' := by
  have q0 : (FloatKind.f64.format.order c (absW a) == some .gt || FloatKind.f64.format.order c (absW a) == some .eq) = true := t0
  have q1 : (FloatKind.f64.format.order c (absW b) == some .gt || FloatKind.f64.format.order c (absW b) == some .eq) = true := t1
  have q2 : (FloatKind.f64.format.order c s2 == some .lt || FloatKind.f64.format.order c s2 == some .eq) = true := t2
  have q3 : (FloatKind.f64.format.order a 0 == some .eq) = false := t3
  have q4 : (FloatKind.f64.format.order h 0 == some .gt || FloatKind.f64.format.order h 0 == some .eq) = true := t4
  have q5 : (FloatKind.f64.format.order h 4645040803167600640 == some .lt || FloatKind.f64.format.order h 4645040803167600640 == some .eq) = true := t5
  have q6 : (FloatKind.f64.format.order b 0 == some .gt) = false := t6
  have q7 : (FloatKind.f64.format.order b 0 == some .lt) = true := t7
  have q8 : (FloatKind.f64.format.order h 4640537203540194960 == some .gt || FloatKind.f64.format.order h 4640537203540194960 == some .eq) = true := t8
  have q9 : (FloatKind.f64.format.order a 0 == some .gt) = true := t9
  have q10 : (FloatKind.f64.format.order h 4643457506423585608 == some .lt) = false := t10
  have q11 : (FloatKind.f64.format.order a 0 == some .lt) = false := t11
  have HA := Lib.hid (zabs_any a)
  have HB := Lib.hid (zabs_any b)
  clear t0 t1 t2 t3 t4 t5 t6 t7 t8 t9 t10 t11
  generalize absW a = aa at *
  generalize absW b = ab at *
  have m1 : ∀ w, (binOp .add 22 (.float .f64 aa) (.float .f64 ab)).run Try.prog w = .ok (.float .f64 s1) w := fun w => run_float_arith w .add 22 .f64 _ _ _ k1
  have m2 : ∀ w, (binOp .mul 22 (.float .f64 s1) (.float .f64 4607182418800017413)).run Try.prog w = .ok (.float .f64 s2) w := fun w => run_float_arith w .mul 22 .f64 _ _ _ k2
  clear k1 k2
  go_enter Try.func10, Try.ntmps10
  go_wp2_with fail
  refine (mag_any _ _).mono ?_
  rintro e w' ⟨rfl, rfl⟩
  rw [i1.out]
  go_wp2_with fail
  refine (mag_any _ _).mono ?_
  rintro e w' ⟨rfl, rfl⟩
  rw [i2.out]
  go_wp2_with fail
  refine (HC.out _).mono ?_
  rintro e w1 ⟨rfl, hb⟩
  have HBl := Lib.hid hb
  clear hb
  go_wp2_with fail
  refine (same_any _ _).mono ?_
  rintro e w' ⟨rfl, rfl⟩
  go_wp2_with fail
  refine (HA.out _).mono ?_
  rintro e w' ⟨rfl, rfl⟩
  go_wp2_with fail
  refine (HB.out _).mono ?_
  rintro e w' ⟨rfl, rfl⟩
  go_wp2
  go_ret
  exact ⟨rfl, HBl.out⟩
set_option maxRecDepth 100000 in
set_option maxHeartbeats 4000000 in
theorem main_nn (l a b c h s1 s2 : Nat) (w : World) (i1 : Hid (magB a = true)) (i2 : Hid (magB b = true))
    (HC : Hid (∀ w, Calls Try.prog 38 #[.float .f64 l, .float .f64 a, .float .f64 b] w fun e w' => e = .returned (.tuple #[.float .f64 l, .float .f64 c, .float .f64 h]) ∧ Below w.heap.size w w'))
    (k1 : Ieee.double.add (absW a) (absW b) = some s1) (k2 : Ieee.double.mul s1 4607182418800017413 = some s2) (t0 : geB c (absW a) = true) (t1 : geB c (absW b) = true) (t2 : leB c s2 = true) (t3 : eqB a 0 = false) (t4 : geB h 0 = true) (t5 : leB h 4645040803167600640 = true) (t6 : gtB b 0 = false) (t7 : ltB b 0 = true) (t8 : geB h 4640537203540194960 = true) (t9 : gtB a 0 = false) (t10 : ltB a 0 = true) (t11 : gtB h 4643457506423620792 = false) : Calls Try.prog 10 #[.float .f64 l, .float .f64 a, .float .f64 b] w fun e w' => e = .returned (.bool true) ∧ Below w.heap.size w w' := by
  have q0 : (FloatKind.f64.format.order c (absW a) == some .gt || FloatKind.f64.format.order c (absW a) == some .eq) = true := t0
  have q1 : (FloatKind.f64.format.order c (absW b) == some .gt || FloatKind.f64.format.order c (absW b) == some .eq) = true := t1
  have q2 : (FloatKind.f64.format.order c s2 == some .lt || FloatKind.f64.format.order c s2 == some .eq) = true := t2
  have q3 : (FloatKind.f64.format.order a 0 == some .eq) = false := t3
  have q4 : (FloatKind.f64.format.order h 0 == some .gt || FloatKind.f64.format.order h 0 == some .eq) = true := t4
  have q5 : (FloatKind.f64.format.order h 4645040803167600640 == some .lt || FloatKind.f64.format.order h 4645040803167600640 == some .eq) = true := t5
  have q6 : (FloatKind.f64.format.order b 0 == some .gt) = false := t6
  have q7 : (FloatKind.f64.format.order b 0 == some .lt) = true := t7
  have q8 : (FloatKind.f64.format.order h 4640537203540194960 == some .gt || FloatKind.f64.format.order h 4640537203540194960 == some .eq) = true := t8
  have q9 : (FloatKind.f64.format.order a 0 == some .gt) = false := t9
  have q10 : (FloatKind.f64.format.order a 0 == some .lt) = true := t10
  have q11 : (FloatKind.f64.format.order h 4643457506423620792 == some .gt) = false := t11
  have HA := Lib.hid (zabs_any a)
  have HB := Lib.hid (zabs_any b)
  clear t0 t1 t2 t3 t4 t5 t6 t7 t8 t9 t10 t11
  generalize absW a = aa at *
  generalize absW b = ab at *
  have m1 : ∀ w, (binOp .add 22 (.float .f64 aa) (.float .f64 ab)).run Try.prog w = .ok (.float .f64 s1) w := fun w => run_float_arith w .add 22 .f64 _ _ _ k1
  have m2 : ∀ w, (binOp .mul 22 (.float .f64 s1) (.float .f64 4607182418800017413)).run Try.prog w = .ok (.float .f64 s2) w := fun w => run_float_arith w .mul 22 .f64 _ _ _ k2
  clear k1 k2
  go_enter Try.func10, Try.ntmps10
  go_wp2_with fail
  refine (mag_any _ _).mono ?_
  rintro e w' ⟨rfl, rfl⟩
  rw [i1.out]
  go_wp2_with fail
  refine (mag_any _ _).mono ?_
  rintro e w' ⟨rfl, rfl⟩
  rw [i2.out]
  go_wp2_with fail
  refine (HC.out _).mono ?_
  rintro e w1 ⟨rfl, hb⟩
  have HBl := Lib.hid hb
  clear hb
  go_wp2_with fail
  refine (same_any _ _).mono ?_
  rintro e w' ⟨rfl, rfl⟩
  go_wp2_with fail
  refine (HA.out _).mono ?_
  rintro e w' ⟨rfl, rfl⟩
  go_wp2_with fail
  refine (HB.out _).mono ?_
  rintro e w' ⟨rfl, rfl⟩
  go_wp2
  go_ret
  exact ⟨rfl, HBl.out⟩
set_option maxRecDepth 100000 in
set_option maxHeartbeats 4000000 in
theorem main_zn (l a b c h s1 s2 d : Nat) (w : World) (i1 : Hid (magB a = true)) (i2 : Hid (magB b = true))
    (HC : Hid (∀ w, Calls Try.prog 38 #[.float .f64 l, .float .f64 a, .float .f64 b] w fun e w' => e = .returned (.tuple #[.float .f64 l, .float .f64 c, .float .f64 h]) ∧ Below w.heap.size w w'))
    (k1 : Ieee.double.add (absW a) (absW b) = some s1) (k2 : Ieee.double.mul s1 4607182418800017413 = some s2) (k3 : Ieee.double.sub h 4643457506423603200 = some d) (t0 : geB c (absW a) = true) (t1 : geB c (absW b) = true) (t2 : leB c s2 = true) (t3 : eqB a 0 = true) (t4 : eqB b 0 = false) (t5 : geB h 0 = true) (t6 : leB h 4645040803167600640 = true) (t7 : gtB b 0 = false) (t8 : ltB b 0 = true) (t9 : geB h 4640537203540194960 = true) (t10 : gtB a 0 = false) (t11 : ltB a 0 = false) (t12 : gtB (absW d) 4472406533629990549 = false) : Calls Try.prog 10 #[.float .f64 l, .float .f64 a, .float .f64 b] w fun e w' => e = .returned (.bool true) ∧ Below w.heap.size w w' := by
  have q0 : (FloatKind.f64.format.order c (absW a) == some .gt || FloatKind.f64.format.order c (absW a) == some .eq) = true := t0
  have q1 : (FloatKind.f64.format.order c (absW b) == some .gt || FloatKind.f64.format.order c (absW b) == some .eq) = true := t1
  have q2 : (FloatKind.f64.format.order c s2 == some .lt || FloatKind.f64.format.order c s2 == some .eq) = true := t2
  have q3 : (FloatKind.f64.format.order a 0 == some .eq) = true := t3
  have q4 : (FloatKind.f64.format.order b 0 == some .eq) = false := t4
  have q5 : (FloatKind.f64.format.order h 0 == some .gt || FloatKind.f64.format.order h 0 == some .eq) = true := t5
  have q6 : (FloatKind.f64.format.order h 4645040803167600640 == some .lt || FloatKind.f64.format.order h 4645040803167600640 == some .eq) = true := t6
  have q7 : (FloatKind.f64.format.order b 0 == some .gt) = false := t7
  have q8 : (FloatKind.f64.format.order b 0 == some .lt) = true := t8
  have q9 : (FloatKind.f64.format.order h 4640537203540194960 == some .gt || FloatKind.f64.format.order h 4640537203540194960 == some .eq) = true := t9
  have q10 : (FloatKind.f64.format.order a 0 == some .gt) = false := t10
  have q11 : (FloatKind.f64.format.order a 0 == some .lt) = false := t11
  have q12 : (FloatKind.f64.format.order (absW d) 4472406533629990549 == some .gt) = false := t12
  have HA := Lib.hid (zabs_any a)
  have HB := Lib.hid (zabs_any b)
  have HD := Lib.hid (zabs_any d)
  clear t0 t1 t2 t3 t4 t5 t6 t7 t8 t9 t10 t11 t12
  generalize absW d = ad at *
  generalize absW a = aa at *
  generalize absW b = ab at *
  have m1 : ∀ w, (binOp .add 22 (.float .f64 aa) (.float .f64 ab)).run Try.prog w = .ok (.float .f64 s1) w := fun w => run_float_arith w .add 22 .f64 _ _ _ k1
  have m2 : ∀ w, (binOp .mul 22 (.float .f64 s1) (.float .f64 4607182418800017413)).run Try.prog w = .ok (.float .f64 s2) w := fun w => run_float_arith w .mul 22 .f64 _ _ _ k2
  have m3 : ∀ w, (binOp .sub 22 (.float .f64 h) (.float .f64 4643457506423603200)).run Try.prog w = .ok (.float .f64 d) w := fun w => run_float_arith w .sub 22 .f64 _ _ _ k3
  clear k3
  clear k1 k2
  go_enter Try.func10, Try.ntmps10
  go_wp2_with fail
  refine (mag_any _ _).mono ?_
  rintro e w' ⟨rfl, rfl⟩
  rw [i1.out]
  go_wp2_with fail
  refine (mag_any _ _).mono ?_
  rintro e w' ⟨rfl, rfl⟩
  rw [i2.out]
  go_wp2_with fail
  refine (HC.out _).mono ?_
  rintro e w1 ⟨rfl, hb⟩
  have HBl := Lib.hid hb
  clear hb
  go_wp2_with fail
  refine (same_any _ _).mono ?_
  rintro e w' ⟨rfl, rfl⟩
  go_wp2_with fail
  refine (HA.out _).mono ?_
  rintro e w' ⟨rfl, rfl⟩
  go_wp2_with fail
  refine (HB.out _).mono ?_
  rintro e w' ⟨rfl, rfl⟩
  go_wp2_with fail
  refine (HD.out _).mono ?_
  rintro e w' ⟨rfl, rfl⟩
  go_wp2
  go_ret
  exact ⟨rfl, HBl.out⟩
set_option maxRecDepth 100000 in
set_option maxHeartbeats 4000000 in
theorem main_pz (l a b c h s1 s2 : Nat) (w : World) (i1 : Hid (magB a = true)) (i2 : Hid (magB b = true))
    (HC : Hid (∀ w, Calls Try.prog 38 #[.float .f64 l, .float .f64 a, .float .f64 b] w fun e w' => e = .returned (.tuple #[.float .f64 l, .float .f64 c, .float .f64 h]) ∧ Below w.heap.size w w'))
    (k1 : Ieee.double.add (absW a) (absW b) = some s1) (k2 : Ieee.double.mul s1 4607182418800017413 = some s2) (t0 : geB c (absW a) = true) (t1 : geB c (absW b) = true) (t2 : leB c s2 = true) (t3 : eqB a 0 = false) (t4 : geB h 0 = true) (t5 : leB h 4645040803167600640 = true) (t6 : gtB b 0 = false) (t7 : ltB b 0 = false) (t8 : gtB a 0 = true) (t9 : eqB h 0 = true) : Calls Try.prog 10 #[.float .f64 l, .float .f64 a, .float .f64 b] w fun e w' => e = .returned (.bool true) ∧ Below w.heap.size w w' := by
  have q0 : (FloatKind.f64.format.order c (absW a) == some .gt || FloatKind.f64.format.order c (absW a) == some .eq) = true := t0
  have q1 : (FloatKind.f64.format.order c (absW b) == some .gt || FloatKind.f64.format.order c (absW b) == some .eq) = true := t1
  have q2 : (FloatKind.f64.format.order c s2 == some .lt || FloatKind.f64.format.order c s2 == some .eq) = true := t2
  have q3 : (FloatKind.f64.format.order a 0 == some .eq) = false := t3
  have q4 : (FloatKind.f64.format.order h 0 == some .gt || FloatKind.f64.format.order h 0 == some .eq) = true := t4
  have q5 : (FloatKind.f64.format.order h 4645040803167600640 == some .lt || FloatKind.f64.format.order h 4645040803167600640 == some .eq) = true := t5
  have q6 : (FloatKind.f64.format.order b 0 == some .gt) = false := t6
  have q7 : (FloatKind.f64.format.order b 0 == some .lt) = false := t7
  have q8 : (FloatKind.f64.format.order a 0 == some .gt) = true := t8
  have q9 : (FloatKind.f64.format.order h 0 == some .eq) = true := t9
  have HA := Lib.hid (zabs_any a)
  have HB := Lib.hid (zabs_any b)
  clear t0 t1 t2 t3 t4 t5 t6 t7 t8 t9
  generalize absW a = aa at *
  generalize absW b = ab at *
  have m1 : ∀ w, (binOp .add 22 (.float .f64 aa) (.float .f64 ab)).run Try.prog w = .ok (.float .f64 s1) w := fun w => run_float_arith w .add 22 .f64 _ _ _ k1
  have m2 : ∀ w, (binOp .mul 22 (.float .f64 s1) (.float .f64 4607182418800017413)).run Try.prog w = .ok (.float .f64 s2) w := fun w => run_float_arith w .mul 22 .f64 _ _ _ k2
  clear k1 k2
  go_enter Try.func10, Try.ntmps10
  go_wp2_with fail
  refine (mag_any _ _).mono ?_
  rintro e w' ⟨rfl, rfl⟩
  rw [i1.out]
  go_wp2_with fail
  refine (mag_any _ _).mono ?_
  rintro e w' ⟨rfl, rfl⟩
  rw [i2.out]
  go_wp2_with fail
  refine (HC.out _).mono ?_
  rintro e w1 ⟨rfl, hb⟩
  have HBl := Lib.hid hb
  clear hb
  go_wp2_with fail
  refine (same_any _ _).mono ?_
  rintro e w' ⟨rfl, rfl⟩
  go_wp2_with fail
  refine (HA.out _).mono ?_
  rintro e w' ⟨rfl, rfl⟩
  go_wp2_with fail
  refine (HB.out _).mono ?_
  rintro e w' ⟨rfl, rfl⟩
  go_wp2
  go_ret
  exact ⟨rfl, HBl.out⟩
set_option maxRecDepth 100000 in
set_option maxHeartbeats 4000000 in
theorem main_nz (l a b c h s1 s2 d : Nat) (w : World) (i1 : Hid (magB a = true)) (i2 : Hid (magB b = true))
    (HC : Hid (∀ w, Calls Try.prog 38 #[.float .f64 l, .float .f64 a, .float .f64 b] w fun e w' => e = .returned (.tuple #[.float .f64 l, .float .f64 c, .float .f64 h]) ∧ Below w.heap.size w w'))
    (k1 : Ieee.double.add (absW a) (absW b) = some s1) (k2 : Ieee.double.mul s1 4607182418800017413 = some s2) (k3 : Ieee.double.sub h 4640537203540230144 = some d) (t0 : geB c (absW a) = true) (t1 : geB c (absW b) = true) (t2 : leB c s2 = true) (t3 : eqB a 0 = false) (t4 : geB h 0 = true) (t5 : leB h 4645040803167600640 = true) (t6 : gtB b 0 = false) (t7 : ltB b 0 = false) (t8 : gtB a 0 = false) (t9 : leB (absW d) 4472406533629990549 = true) : Calls Try.prog 10 #[.float .f64 l, .float .f64 a, .float .f64 b] w fun e w' => e = .returned (.bool true) ∧ Below w.heap.size w w' := by
  have q0 : (FloatKind.f64.format.order c (absW a) == some .gt || FloatKind.f64.format.order c (absW a) == some .eq) = true := t0
  have q1 : (FloatKind.f64.format.order c (absW b) == some .gt || FloatKind.f64.format.order c (absW b) == some .eq) = true := t1
  have q2 : (FloatKind.f64.format.order c s2 == some .lt || FloatKind.f64.format.order c s2 == some .eq) = true := t2
  have q3 : (FloatKind.f64.format.order a 0 == some .eq) = false := t3
  have q4 : (FloatKind.f64.format.order h 0 == some .gt || FloatKind.f64.format.order h 0 == some .eq) = true := t4
  have q5 : (FloatKind.f64.format.order h 4645040803167600640 == some .lt || FloatKind.f64.format.order h 4645040803167600640 == some .eq) = true := t5
  have q6 : (FloatKind.f64.format.order b 0 == some .gt) = false := t6
  have q7 : (FloatKind.f64.format.order b 0 == some .lt) = false := t7
  have q8 : (FloatKind.f64.format.order a 0 == some .gt) = false := t8
  have q9 : (FloatKind.f64.format.order (absW d) 4472406533629990549 == some .lt || FloatKind.f64.format.order (absW d) 4472406533629990549 == some .eq) = true := t9
  have HA := Lib.hid (zabs_any a)
  have HB := Lib.hid (zabs_any b)
  have HD := Lib.hid (zabs_any d)
  clear t0 t1 t2 t3 t4 t5 t6 t7 t8 t9
  generalize absW d = ad at *
  generalize absW a = aa at *
  generalize absW b = ab at *
  have m1 : ∀ w, (binOp .add 22 (.float .f64 aa) (.float .f64 ab)).run Try.prog w = .ok (.float .f64 s1) w := fun w => run_float_arith w .add 22 .f64 _ _ _ k1
  have m2 : ∀ w, (binOp .mul 22 (.float .f64 s1) (.float .f64 4607182418800017413)).run Try.prog w = .ok (.float .f64 s2) w := fun w => run_float_arith w .mul 22 .f64 _ _ _ k2
  have m3 : ∀ w, (binOp .sub 22 (.float .f64 h) (.float .f64 4640537203540230144)).run Try.prog w = .ok (.float .f64 d) w := fun w => run_float_arith w .sub 22 .f64 _ _ _ k3
  clear k3
  clear k1 k2
  go_enter Try.func10, Try.ntmps10
  go_wp2_with fail
  refine (mag_any _ _).mono ?_
  rintro e w' ⟨rfl, rfl⟩
  rw [i1.out]
  go_wp2_with fail
  refine (mag_any _ _).mono ?_
  rintro e w' ⟨rfl, rfl⟩
  rw [i2.out]
  go_wp2_with fail
  refine (HC.out _).mono ?_
  rintro e w1 ⟨rfl, hb⟩
  have HBl := Lib.hid hb
  clear hb
  go_wp2_with fail
  refine (same_any _ _).mono ?_
  rintro e w' ⟨rfl, rfl⟩
  go_wp2_with fail
  refine (HA.out _).mono ?_
  rintro e w' ⟨rfl, rfl⟩
  go_wp2_with fail
  refine (HB.out _).mono ?_
  rintro e w' ⟨rfl, rfl⟩
  go_wp2_with fail
  refine (HD.out _).mono ?_
  rintro e w' ⟨rfl, rfl⟩
  go_wp2
  go_ret
  exact ⟨rfl, HBl.out⟩
set_option maxRecDepth 100000 in
set_option maxHeartbeats 4000000 in
theorem main_zz (l a b c h s1 s2 : Nat) (w : World) (i1 : Hid (magB a = true)) (i2 : Hid (magB b = true))
    (HC : Hid (∀ w, Calls Try.prog 38 #[.float .f64 l, .float .f64 a, .float .f64 b] w fun e w' => e = .returned (.tuple #[.float .f64 l, .float .f64 c, .float .f64 h]) ∧ Below w.heap.size w w'))
    (k1 : Ieee.double.add (absW a) (absW b) = some s1) (k2 : Ieee.double.mul s1 4607182418800017413 = some s2) (t0 : geB c (absW a) = true) (t1 : geB c (absW b) = true) (t2 : leB c s2 = true) (t3 : eqB a 0 = true) (t4 : eqB b 0 = true) (t5 : eqB c 0 = true) : Calls Try.prog 10 #[.float .f64 l, .float .f64 a, .float .f64 b] w fun e w' => e = .returned (.bool true) ∧ Below w.heap.size w w' := by
  have q0 : (FloatKind.f64.format.order c (absW a) == some .gt || FloatKind.f64.format.order c (absW a) == some .eq) = true := t0
  have q1 : (FloatKind.f64.format.order c (absW b) == some .gt || FloatKind.f64.format.order c (absW b) == some .eq) = true := t1
  have q2 : (FloatKind.f64.format.order c s2 == some .lt || FloatKind.f64.format.order c s2 == some .eq) = true := t2
  have q3 : (FloatKind.f64.format.order a 0 == some .eq) = true := t3
  have q4 : (FloatKind.f64.format.order b 0 == some .eq) = true := t4
  have q5 : (FloatKind.f64.format.order c 0 == some .eq) = true := t5
  have HA := Lib.hid (zabs_any a)
  have HB := Lib.hid (zabs_any b)
  clear t0 t1 t2 t3 t4 t5
  generalize absW a = aa at *
  generalize absW b = ab at *
  have m1 : ∀ w, (binOp .add 22 (.float .f64 aa) (.float .f64 ab)).run Try.prog w = .ok (.float .f64 s1) w := fun w => run_float_arith w .add 22 .f64 _ _ _ k1
  have m2 : ∀ w, (binOp .mul 22 (.float .f64 s1) (.float .f64 4607182418800017413)).run Try.prog w = .ok (.float .f64 s2) w := fun w => run_float_arith w .mul 22 .f64 _ _ _ k2
  clear k1 k2
  go_enter Try.func10, Try.ntmps10
  go_wp2_with fail
  refine (mag_any _ _).mono ?_
  rintro e w' ⟨rfl, rfl⟩
  rw [i1.out]
  go_wp2_with fail
  refine (mag_any _ _).mono ?_
  rintro e w' ⟨rfl, rfl⟩
  rw [i2.out]
  go_wp2_with fail
  refine (HC.out _).mono ?_
  rintro e w1 ⟨rfl, hb⟩
  have HBl := Lib.hid hb
  clear hb
  go_wp2_with fail
  refine (same_any _ _).mono ?_
  rintro e w' ⟨rfl, rfl⟩
  go_wp2_with fail
  refine (HA.out _).mono ?_
  rintro e w' ⟨rfl, rfl⟩
  go_wp2_with fail
  refine (HB.out _).mono ?_
  rintro e w' ⟨rfl, rfl⟩
  go_wp2
  go_ret
  exact ⟨rfl, HBl.out⟩
theorem k180q : Finite 4640537203540265328 ∧ 180 + 9 / 10000000000 ≤ val 4640537203540265328 := by refine ⟨?_, ?_⟩ <;> decide +kernel
theorem k90q : Finite 4636033603912930017 ∧ 90 + 9 / 10000000000 ≤ val 4636033603912930017 := by refine ⟨?_, ?_⟩ <;> decide +kernel
theorem k90r : Finite 4636033603912789279 ∧ val 4636033603912789279 ≤ 90 - 9 / 10000000000 := by refine ⟨?_, ?_⟩ <;> decide +kernel
theorem k180r : Finite 4640537203540194960 ∧ val 4640537203540194960 ≤ 180 - 9 / 10000000000 := by refine ⟨?_, ?_⟩ <;> decide +kernel
theorem k270r : Finite 4643457506423585608 ∧ val 4643457506423585608 ≤ 270 - 9 / 10000000000 := by refine ⟨?_, ?_⟩ <;> decide +kernel
theorem k270q : Finite 4643457506423620792 ∧ 270 + 9 / 10000000000 ≤ val 4643457506423620792 := by refine ⟨?_, ?_⟩ <;> decide +kernel
theorem kE9 : Finite 4472406533629990549 ∧ 9 / 10000000000 ≤ val 4472406533629990549 := by refine ⟨?_, ?_⟩ <;> decide +kernel
theorem k90c : Finite 4636033603912859648 ∧ val 4636033603912859648 = 90 := by constructor <;> decide +kernel
theorem k180c : Finite 4640537203540230144 ∧ val 4640537203540230144 = 180 := by constructor <;> decide +kernel
theorem k270c : Finite 4643457506423603200 ∧ val 4643457506423603200 = 270 := by constructor <;> decide +kernel
theorem kOne15 : Finite 4607182418800017413 ∧ val 4607182418800017413 = 1 + 10 / 9007199254740992 := by constructor <;> decide +kernel
theorem kLo : Finite 3110860544497550640 ∧ p2 (-340) ≤ val 3110860544497550640 := by constructor <;> decide +kernel
theorem kHi : Finite 6103021453049119613 ∧ val 6103021453049119613 ≤ p2 340 := by constructor <;> decide +kernel
theorem absW_val {x : Nat} (h : Finite x) : val (absW x) = val (mag x) := by
  obtain ⟨-, a1, -, -, a2⟩ := absW_ok h
  obtain ⟨m1, -, -, m2⟩ := mag_bounds x h.1
  rcases a2 with e | e <;> rcases m2 with e' | e' <;> grind
theorem eq_fin {x : Nat} (hx : x < 2 ^ 64) (h : eqB x 0 = true) : Finite x ∧ val x = 0 := by
  have g : geB x 0 = true := by unfold geB; unfold eqB at h; rw [h]; simp
  have l : leB x 0 = true := by unfold leB; unfold eqB at h; rw [h]; simp
  obtain ⟨f, a, b⟩ := finite_between hx fin_zero fin_zero g l
  rw [val_zero] at a b
  exact ⟨f, by grind⟩
theorem absW_lt {x : Nat} (hx : x < 2 ^ 64) : absW x < 2 ^ 64 := by
  unfold absW
  split
  · exact (flip_parts x hx).1
  · exact hx
theorem abs_fin {x : Nat} (hx : x < 2 ^ 64) (h : Finite (absW x)) : Finite x := by
  refine ⟨hx, ?_⟩
  have h2 := h.2
  unfold absW at h2
  split at h2
  · rw [(flip_parts x hx).2.1] at h2; exact h2
  · exact h2
theorem in_zone {x : Nat} (hx : x < 2 ^ 64) (h : magB x = true) : Zone3 x := by
  unfold magB at h
  cases h0 : eqB x 0 with
  | true => obtain ⟨f, v⟩ := eq_fin hx h0; exact ⟨f, .inl v⟩
  | false =>
    rw [h0] at h
    simp only [Bool.false_or, Bool.and_eq_true] at h
    obtain ⟨fa, a1, a2⟩ := finite_between (absW_lt hx) kLo.1 kHi.1 h.1 h.2
    have f := abs_fin hx fa
    rw [absW_val f] at a1 a2
    have := kLo.2
    have := kHi.2
    exact ⟨f, .inr ⟨by grind, by grind⟩⟩
theorem sum58 (a b c : Nat) (ha : Zone3 a) (hb : Zone3 b) (fc : Finite c) (hc : val c ≤ (val (mag a) + val (mag b)) * (1 + 5 / 9007199254740992)) (hz : val a = 0 → val b = 0 → val c = 0) :
    ∃ s1 s2, Ieee.double.add (absW a) (absW b) = some s1 ∧ Ieee.double.mul s1 4607182418800017413 = some s2 ∧ leB c s2 = true := by
  obtain ⟨fa, a0, -, -, -⟩ := absW_ok ha.1
  obtain ⟨fb, b0, -, -, -⟩ := absW_ok hb.1
  have ea := absW_val ha.1
  have eb := absW_val hb.1
  rw [← ea, ← eb] at hc
  have hu : u = 1 / 9007199254740992 := rfl
  have he0 := eta_pos
  have hp := p2_pos (-340)
  have hpp := p2_pos 340
  have la : val (absW a) = 0 ∨ p2 (-340) ≤ val (absW a) := by
    rcases ha.2 with h | h
    · left; rw [ea]; exact mag_zero ha.1 h
    · right; rw [ea]; exact h.1
  have lb : val (absW b) = 0 ∨ p2 (-340) ≤ val (absW b) := by
    rcases hb.2 with h | h
    · left; rw [eb]; exact mag_zero hb.1 h
    · right; rw [eb]; exact h.1
  have ua : val (absW a) ≤ p2 340 := by
    rcases ha.2 with h | h
    · rw [ea, mag_zero ha.1 h]; grind
    · rw [ea]; exact h.2
  have ub : val (absW b) ≤ p2 340 := by
    rcases hb.2 with h | h
    · rw [eb, mag_zero hb.1 h]; grind
    · rw [eb]; exact h.2
  have hbig : 100 * p2 340 < p2 1022 ∧ p2 1022 < p2 1023 := by
    have g4 : p2 1022 = p2 340 * p2 682 := by rw [← p2_add]; rfl
    have g5 : p2 7 ≤ p2 682 := p2_le (by decide)
    have g6 := Rat.mul_le_mul_of_nonneg_left g5 (Rat.le_of_lt hpp)
    have g7 : p2 7 = 128 := by decide +kernel
    have g8 : p2 1023 = 2 * p2 1022 := half_p2 1023
    have g9 := p2_pos 1022
    rw [g7] at g6
    exact ⟨by grind, by grind⟩
  have heta : eta ≤ p2 (-340) / 1000000000000000000000000000000000000 := by
    have g1 : p2 (-340) = p2 (-1074) * p2 734 := by rw [← p2_add]; rfl
    have g2 : p2 130 ≤ p2 734 := p2_le (by decide)
    have g3 : p2 130 = 1361129467683753853853498429727072845824 := by decide +kernel
    have g4 := Rat.mul_le_mul_of_nonneg_left g2 (Rat.le_of_lt (p2_pos (-1074)))
    have g5 := eta_half
    rw [g3] at g4
    clear hc la lb ua ub hbig
    grind
  have het : eta ≤ 1 := by have := eta_nano; grind
  have h1p : 1 ≤ p2 340 := by
    have := p2_le (show (0 : Int) ≤ 340 by decide)
    rw [p2_zero] at this; exact this
  obtain ⟨s1, e1, f1, r1⟩ := add_ok (absW a) (absW b) fa fb (by grind) (by grind)
  have S1 := r1 (val (absW a) + val (absW b)) (by grind) Rat.le_refl
  clear r1
  rw [hu] at S1
  obtain ⟨f15, v15⟩ := kOne15
  have hs0 : 0 ≤ val s1 ∧ val s1 ≤ 3 * p2 340 := by
    rcases la with h | h
    · rcases lb with h' | h'
      · rw [h, h'] at S1
        obtain ⟨bb, kk, i, e, -, v⟩ := add_form fa fb
        replace e := Option.some.inj (e1.symm.trans e)
        have h0 := (form_bound (c := 0) (j := 0) v (by grind) (by grind) (by decide) (by decide)).2.2.2
        have z : ((0 : Nat) : Rat) * p2 0 = 0 := Rat.zero_mul _
        rw [z, ← e] at h0
        exact ⟨h0 (by grind), by grind⟩
      · exact ⟨by grind, by grind⟩
    · exact ⟨by grind, by grind⟩
  have hprod : val s1 * (1 + 10 / 9007199254740992) ≤ 4 * p2 340 ∧ 0 ≤ val s1 * (1 + 10 / 9007199254740992) := ⟨by grind, by grind⟩
  obtain ⟨s2, e2, f2, r2⟩ := mul_ok s1 4607182418800017413 f1 f15 (by rw [v15]; grind) (by rw [v15]; grind)
  rw [v15] at r2
  have S2 := r2 (val s1 * (1 + 10 / 9007199254740992)) (by grind) Rat.le_refl
  clear r2
  rw [hu] at S2
  refine ⟨s1, s2, e1, e2, ?_⟩
  rw [leB_ok fc f2]
  refine decide_eq_true ?_
  by_cases hzz : val (absW a) = 0 ∧ val (absW b) = 0
  · have za : val a = 0 := by
      rcases ha.2 with h | h
      · exact h
      · exfalso; rw [← ea, hzz.1] at h; grind
    have zb : val b = 0 := by
      rcases hb.2 with h | h
      · exact h
      · exfalso; rw [← eb, hzz.2] at h; grind
    rw [hz za zb]
    -- s1 = 0, s2 >= 0
    obtain ⟨b', k, i, e, v⟩ := mul_form f1 f15
    rw [v15] at v
    replace e := Option.some.inj (e2.symm.trans e)
    have h0 := (form_bound (c := 0) (j := 0) v (by grind) (by grind) (by decide) (by decide)).2.2.2
    have z : ((0 : Nat) : Rat) * p2 0 = 0 := Rat.zero_mul _
    rw [z, ← e] at h0
    exact h0 hprod.2
  · have hX : p2 (-340) ≤ val (absW a) + val (absW b) := by
      rcases la with h | h
      · rcases lb with h' | h'
        · exact absurd ⟨h, h'⟩ hzz
        · grind
      · grind
    clear hbig hprod hs0 ua ub la lb hz h1p het v15 hu
    generalize val (absW a) + val (absW b) = X at *
    grind
theorem main58 (l a b : Nat) (w : World) (hx1 : a < 2 ^ 64) (hx2 : b < 2 ^ 64) (i1 : magB a = true) (i2 : magB b = true) : Calls Try.prog 10 #[.float .f64 l, .float .f64 a, .float .f64 b] w fun e w' => e = .returned (.bool true) ∧ Below w.heap.size w w' := by
  have za := in_zone hx1 i1
  have zb := in_zone hx2 i2
  obtain ⟨c, h, hc, fc, fh, c1, c2, c3, c4, H1, H2, H3, H4, H5, H6, H7, H8, H9, H10, H11⟩ := okl58 l a b za zb
  obtain ⟨s1, s2, k1, k2, t2⟩ := sum58 a b c za zb fc c3 c4
  have fa := za.1
  have fb := zb.1
  obtain ⟨faa, -, -, -, -⟩ := absW_ok fa
  obtain ⟨fab, -, -, -, -⟩ := absW_ok fb
  have ea := absW_val fa
  have eb := absW_val fb
  have t0 : geB c (absW a) = true := by rw [geB_ok fc faa, ea]; exact decide_eq_true c1
  have t1 : geB c (absW b) = true := by rw [geB_ok fc fab, eb]; exact decide_eq_true c2
  have hc := Lib.hid hc
  have i1 := Lib.hid i1
  have i2 := Lib.hid i2
  clear c1 c2 c3 ea eb hx1 hx2
  rcases (by grind : 0 < val b ∨ val b < 0 ∨ val b = 0) with sb | sb | sb <;> rcases (by grind : 0 < val a ∨ val a < 0 ∨ val a = 0) with sa | sa | sa
  · have g1 := H1 (by grind)
    have g2 := H2 sb
    have g3 := H3 sb sa
    clear H1 H2 H3 H4 H5 H6 H7 H8 H9 H10 H11 c4
    exact main_pp l a b c h s1 s2 w i1 i2 hc k1 k2 t0 t1 t2 (by rw [eqB_ok fa fin_zero, val_zero]; exact decide_eq_false (by grind)) (by rw [geB_ok fh fin_zero, val_zero]; exact decide_eq_true (by grind)) (by rw [leB_ok fh c360.1, c360.2]; exact decide_eq_true (by grind)) (by rw [gtB_ok fb fin_zero, val_zero]; exact decide_eq_true (by grind)) (by rw [gtB_ok fh fin_zero, val_zero]; exact decide_eq_true (by grind)) (by rw [leB_ok fh k180q.1]; exact decide_eq_true (by have := k180q.2; grind)) (by rw [gtB_ok fa fin_zero, val_zero]; exact decide_eq_true (by grind)) (by rw [gtB_ok fh k90q.1]; exact decide_eq_false (by have := k90q.2; grind)) (by rw [ltB_ok fa fin_zero, val_zero]; exact decide_eq_false (by grind))
  · have g1 := H1 (by grind)
    have g2 := H2 sb
    have g3 := H4 sb sa
    clear H1 H2 H3 H4 H5 H6 H7 H8 H9 H10 H11 c4
    exact main_np l a b c h s1 s2 w i1 i2 hc k1 k2 t0 t1 t2 (by rw [eqB_ok fa fin_zero, val_zero]; exact decide_eq_false (by grind)) (by rw [geB_ok fh fin_zero, val_zero]; exact decide_eq_true (by grind)) (by rw [leB_ok fh c360.1, c360.2]; exact decide_eq_true (by grind)) (by rw [gtB_ok fb fin_zero, val_zero]; exact decide_eq_true (by grind)) (by rw [gtB_ok fh fin_zero, val_zero]; exact decide_eq_true (by grind)) (by rw [leB_ok fh k180q.1]; exact decide_eq_true (by have := k180q.2; grind)) (by rw [gtB_ok fa fin_zero, val_zero]; exact decide_eq_false (by grind)) (by rw [ltB_ok fa fin_zero, val_zero]; exact decide_eq_true (by grind)) (by rw [ltB_ok fh k90r.1]; exact decide_eq_false (by have := k90r.2; grind))
  · have g1 := H1 (by grind)
    have g2 := H2 sb
    have g3 := H5 sb sa
    clear H1 H2 H3 H4 H5 H6 H7 H8 H9 H10 H11 c4
    obtain ⟨fk, vk⟩ := k90c
    obtain ⟨b22, b23⟩ := big1022
    have hu : u = 1 / 9007199254740992 := rfl
    have he := eta_nano
    have he0 := eta_pos
    obtain ⟨d, k3, fd, rd⟩ := sub_ok h 4636033603912859648 fh fk (by rw [vk]; grind) (by rw [vk]; grind)
    rw [vk] at rd
    have sd := rd (1 / 1000000000) (by grind) (by grind)
    rw [hu] at sd
    clear rd
    obtain ⟨fad, -, -, -, hd⟩ := absW_ok fd
    have hd2 : val (absW d) ≤ 8 / 10000000000 := by rcases hd with e | e <;> rw [e] <;> grind
    clear hd sd b22 b23
    exact main_zp l a b c h s1 s2 d w i1 i2 hc k1 k2 k3 t0 t1 t2 (by rw [eqB_ok fa fin_zero, val_zero]; exact decide_eq_true (by grind)) (by rw [eqB_ok fb fin_zero, val_zero]; exact decide_eq_false (by grind)) (by rw [geB_ok fh fin_zero, val_zero]; exact decide_eq_true (by grind)) (by rw [leB_ok fh c360.1, c360.2]; exact decide_eq_true (by grind)) (by rw [gtB_ok fb fin_zero, val_zero]; exact decide_eq_true (by grind)) (by rw [gtB_ok fh fin_zero, val_zero]; exact decide_eq_true (by grind)) (by rw [leB_ok fh k180q.1]; exact decide_eq_true (by have := k180q.2; grind)) (by rw [gtB_ok fa fin_zero, val_zero]; exact decide_eq_false (by grind)) (by rw [ltB_ok fa fin_zero, val_zero]; exact decide_eq_false (by grind)) (by rw [gtB_ok fad kE9.1]; exact decide_eq_false (by have := kE9.2; grind))
  · have g1 := H1 (by grind)
    have g2 := H6 sb
    have g3 := H7 sb sa
    clear H1 H2 H3 H4 H5 H6 H7 H8 H9 H10 H11 c4
    exact main_pn l a b c h s1 s2 w i1 i2 hc k1 k2 t0 t1 t2 (by rw [eqB_ok fa fin_zero, val_zero]; exact decide_eq_false (by grind)) (by rw [geB_ok fh fin_zero, val_zero]; exact decide_eq_true (by grind)) (by rw [leB_ok fh c360.1, c360.2]; exact decide_eq_true (by grind)) (by rw [gtB_ok fb fin_zero, val_zero]; exact decide_eq_false (by grind)) (by rw [ltB_ok fb fin_zero, val_zero]; exact decide_eq_true (by grind)) (by rw [geB_ok fh k180r.1]; exact decide_eq_true (by have := k180r.2; grind)) (by rw [gtB_ok fa fin_zero, val_zero]; exact decide_eq_true (by grind)) (by rw [ltB_ok fh k270r.1]; exact decide_eq_false (by have := k270r.2; grind)) (by rw [ltB_ok fa fin_zero, val_zero]; exact decide_eq_false (by grind))
  · have g1 := H1 (by grind)
    have g2 := H6 sb
    have g3 := H8 sb sa
    clear H1 H2 H3 H4 H5 H6 H7 H8 H9 H10 H11 c4
    exact main_nn l a b c h s1 s2 w i1 i2 hc k1 k2 t0 t1 t2 (by rw [eqB_ok fa fin_zero, val_zero]; exact decide_eq_false (by grind)) (by rw [geB_ok fh fin_zero, val_zero]; exact decide_eq_true (by grind)) (by rw [leB_ok fh c360.1, c360.2]; exact decide_eq_true (by grind)) (by rw [gtB_ok fb fin_zero, val_zero]; exact decide_eq_false (by grind)) (by rw [ltB_ok fb fin_zero, val_zero]; exact decide_eq_true (by grind)) (by rw [geB_ok fh k180r.1]; exact decide_eq_true (by have := k180r.2; grind)) (by rw [gtB_ok fa fin_zero, val_zero]; exact decide_eq_false (by grind)) (by rw [ltB_ok fa fin_zero, val_zero]; exact decide_eq_true (by grind)) (by rw [gtB_ok fh k270q.1]; exact decide_eq_false (by have := k270q.2; grind))
  · have g1 := H1 (by grind)
    have g2 := H6 sb
    have g3 := H9 sb sa
    clear H1 H2 H3 H4 H5 H6 H7 H8 H9 H10 H11 c4
    obtain ⟨fk, vk⟩ := k270c
    obtain ⟨b22, b23⟩ := big1022
    have hu : u = 1 / 9007199254740992 := rfl
    have he := eta_nano
    have he0 := eta_pos
    obtain ⟨d, k3, fd, rd⟩ := sub_ok h 4643457506423603200 fh fk (by rw [vk]; grind) (by rw [vk]; grind)
    rw [vk] at rd
    have sd := rd (1 / 1000000000) (by grind) (by grind)
    rw [hu] at sd
    clear rd
    obtain ⟨fad, -, -, -, hd⟩ := absW_ok fd
    have hd2 : val (absW d) ≤ 8 / 10000000000 := by rcases hd with e | e <;> rw [e] <;> grind
    clear hd sd b22 b23
    exact main_zn l a b c h s1 s2 d w i1 i2 hc k1 k2 k3 t0 t1 t2 (by rw [eqB_ok fa fin_zero, val_zero]; exact decide_eq_true (by grind)) (by rw [eqB_ok fb fin_zero, val_zero]; exact decide_eq_false (by grind)) (by rw [geB_ok fh fin_zero, val_zero]; exact decide_eq_true (by grind)) (by rw [leB_ok fh c360.1, c360.2]; exact decide_eq_true (by grind)) (by rw [gtB_ok fb fin_zero, val_zero]; exact decide_eq_false (by grind)) (by rw [ltB_ok fb fin_zero, val_zero]; exact decide_eq_true (by grind)) (by rw [geB_ok fh k180r.1]; exact decide_eq_true (by have := k180r.2; grind)) (by rw [gtB_ok fa fin_zero, val_zero]; exact decide_eq_false (by grind)) (by rw [ltB_ok fa fin_zero, val_zero]; exact decide_eq_false (by grind)) (by rw [gtB_ok fad kE9.1]; exact decide_eq_false (by have := kE9.2; grind))
  · have g1 := H1 (by grind)
    have g3 := H10 sb sa
    clear H1 H2 H3 H4 H5 H6 H7 H8 H9 H10 H11 c4
    exact main_pz l a b c h s1 s2 w i1 i2 hc k1 k2 t0 t1 t2 (by rw [eqB_ok fa fin_zero, val_zero]; exact decide_eq_false (by grind)) (by rw [geB_ok fh fin_zero, val_zero]; exact decide_eq_true (by grind)) (by rw [leB_ok fh c360.1, c360.2]; exact decide_eq_true (by grind)) (by rw [gtB_ok fb fin_zero, val_zero]; exact decide_eq_false (by grind)) (by rw [ltB_ok fb fin_zero, val_zero]; exact decide_eq_false (by grind)) (by rw [gtB_ok fa fin_zero, val_zero]; exact decide_eq_true (by grind)) (by rw [eqB_ok fh fin_zero, val_zero]; exact decide_eq_true (by grind))
  · have g1 := H1 (by grind)
    have g3 := H11 sb sa
    clear H1 H2 H3 H4 H5 H6 H7 H8 H9 H10 H11 c4
    obtain ⟨fk, vk⟩ := k180c
    obtain ⟨b22, b23⟩ := big1022
    have hu : u = 1 / 9007199254740992 := rfl
    have he := eta_nano
    have he0 := eta_pos
    obtain ⟨d, k3, fd, rd⟩ := sub_ok h 4640537203540230144 fh fk (by rw [vk]; grind) (by rw [vk]; grind)
    rw [vk] at rd
    have sd := rd (1 / 1000000000) (by grind) (by grind)
    rw [hu] at sd
    clear rd
    obtain ⟨fad, -, -, -, hd⟩ := absW_ok fd
    have hd2 : val (absW d) ≤ 8 / 10000000000 := by rcases hd with e | e <;> rw [e] <;> grind
    clear hd sd b22 b23
    exact main_nz l a b c h s1 s2 d w i1 i2 hc k1 k2 k3 t0 t1 t2 (by rw [eqB_ok fa fin_zero, val_zero]; exact decide_eq_false (by grind)) (by rw [geB_ok fh fin_zero, val_zero]; exact decide_eq_true (by grind)) (by rw [leB_ok fh c360.1, c360.2]; exact decide_eq_true (by grind)) (by rw [gtB_ok fb fin_zero, val_zero]; exact decide_eq_false (by grind)) (by rw [ltB_ok fb fin_zero, val_zero]; exact decide_eq_false (by grind)) (by rw [gtB_ok fa fin_zero, val_zero]; exact decide_eq_false (by grind)) (by rw [leB_ok fad kE9.1]; exact decide_eq_true (by have := kE9.2; grind))
  · have g3 := c4 sa sb
    clear H1 H2 H3 H4 H5 H6 H7 H8 H9 H10 H11 c4
    exact main_zz l a b c h s1 s2 w i1 i2 hc k1 k2 t0 t1 t2 (by rw [eqB_ok fa fin_zero, val_zero]; exact decide_eq_true (by grind)) (by rw [eqB_ok fb fin_zero, val_zero]; exact decide_eq_true (by grind)) (by rw [eqB_ok fc fin_zero, val_zero]; exact decide_eq_true (by grind))

set_option maxRecDepth 100000 in
set_option maxHeartbeats 4000000 in
/-- THE WALK -/
theorem walk (a0 : Nat) (a1 : Nat) (a2 : Nat) (w : World) (w0 : (Lit.float .f64 a0).wf = true) (w1 : (Lit.float .f64 a1).wf = true) (w2 : (Lit.float .f64 a2).wf = true) :
    Calls Try.prog 10 #[.float .f64 a0, .float .f64 a1, .float .f64 a2] w fun e w' => e = .returned (.bool true) ∧ Below w.heap.size w w' := by
  have hx1 : a1 < 2 ^ 64 := by simpa [Lit.wf] using w1
  have hx2 : a2 < 2 ^ 64 := by simpa [Lit.wf] using w2
  cases i1 : magB a1 with
  | false => exact out1 a0 a1 a2 w (Lib.hid i1)
  | true =>
  cases i2 : magB a2 with
  | false => exact out2 a0 a1 a2 w (Lib.hid i1) (Lib.hid i2)
  | true =>
  exact main58 a0 a1 a2 w hx1 hx2 i1 i2

set_option maxRecDepth 100000 in
theorem lifted (os : Os) (started : os.Started) (H : Type) (enc : TypeId × Value → H) :
    ReturnsInHanded {} Try.checked os 10 .any (Rows.fnOklabToOklchBoundsAndHueHalfPlanesSpec.pre6 enc Try.prog Try.f10 Rows.fnOklabToOklchBoundsAndHueHalfPlanesRow.domain false) (Rows.fnOklabToOklchBoundsAndHueHalfPlanesSpec.post enc Try.prog Try.f10 false true false false) := by
  refine returnsInHanded_of_change (C := Try.checked) own started (by kernel_rfl) Try.func10
    (ChangeSpec.witness6 (enc := enc) (C := Try.checked) false ⟨#[], #[.float .f64 0, .float .f64 0, .float .f64 0], []⟩ 8 (by kernel_rfl) (by kernel_rfl) (by kernel_rfl) (by kernel_rfl)) ?_
  intro W base args ds gs before hval0 hW hcnd _
  have hval : ∀ (j : Nat) t v, Try.f10.params[j]? = some t → args[j]? = some v → Value.okWide Try.prog W .any base t v := hval0
  have hW' := hW
  obtain ⟨p, q, hA0, hV, rfl, hfz, hnd⟩ := hW
  have hA : DataW.TrodAll enc Try.prog W 0 (fun _ => true) true Try.f10.params.toList args.toList ds p := hA0
  rw [Try.params10] at hA hval
  obtain ⟨v0, vs0, d0, ds0, p0, q0, hargs, rfl, rfl, h0, r0⟩ := trodAll_cons hA
  obtain ⟨v1, vs1, d1, ds1, p1, q1, rfl, rfl, rfl, h1, r1⟩ := trodAll_cons r0
  obtain ⟨v2, vs2, d2, ds2, p2, q2, rfl, rfl, rfl, h2, r2⟩ := trodAll_cons r1
  obtain ⟨rfl, rfl, rfl⟩ := trodAll_nil r2
  obtain rfl : args = #[v0, v1, v2] := by cases args; simp_all
  obtain ⟨rfl, rfl⟩ := trodVars_none hV
  obtain ⟨a0, rfl, rfl, rfl, w0⟩ := open_float Try.underlying22 (hval 0 22 v0 rfl rfl) h0
  obtain ⟨a1, rfl, rfl, rfl, w1⟩ := open_float Try.underlying22 (hval 1 22 v1 rfl rfl) h1
  obtain ⟨a2, rfl, rfl, rfl, w2⟩ := open_float Try.underlying22 (hval 2 22 v2 rfl rfl) h2
  clear hA0 hval0
  refine (walk a0 a1 a2 W w0 w1 w2).mono fun e W' ⟨he, bel⟩ => ?_
  subst he
  exact ⟨_, rfl, _, _, _, [], _, [], hW', trodAll_mk1 (shut_bool Try.underlying4 _), (trodAll_cons_mk (shut_float Try.underlying22 w0) (trodAll_cons_mk (shut_float Try.underlying22 w1) (trodAll_cons_mk (shut_float Try.underlying22 w2) trodAll_mk0))), rfl, bel.frame _, fun h => by cases h⟩

theorem over : Rows.fnOklabToOklchBoundsAndHueHalfPlanesRow.holds Try.pinned (OpenSpec.ofChange Rows.fnOklabToOklchBoundsAndHueHalfPlanesSpec) :=
  OpenClaim.holds_of_wide 10 Try.f10 rfl rfl rfl rfl rfl rfl rfl ⟨rfl, rfl, rfl, rfl, rfl⟩ rfl rfl rfl rfl rfl (by kernel_rfl) Try.func10 (by kernel_rfl)
    (of_decide_eq_true (by kernel_rfl)) (by unfold Func.isWrapper; first | (rw [if_pos (by decide +kernel)]; kernel_rfl) | (rw [if_neg (by decide +kernel)]; exact ⟨rfl, rfl⟩))
    (fun os started H enc _ => lifted os started H enc)

/-- THE STATEMENT -/
theorem proved : Rows.FnOklabToOklchBoundsAndHueHalfPlanesSaid := over
#print axioms proved
end Go.Proofs.Ytafeeebgleecfaa.fnOklabToOklchBoundsAndHueHalfPlanes
