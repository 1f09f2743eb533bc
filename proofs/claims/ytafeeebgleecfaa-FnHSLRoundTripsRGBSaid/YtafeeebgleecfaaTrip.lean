/-
  A colour with channels in 0..1 that is no gray comes back from hue, saturation and light within 1e-9; no conditions.
-/
import Derived.Test.YtafeeebgleecfaaRows
import Derived.WalkKit
import Derived.ProofKit
import Derived.OpenShut
import Derived.ShutString
import Derived.ChangeOld
import Derived.Below
import Derived.Lib.Hide
import Derived.Outline
import Derived.Laws.Cover2
import Derived.Laws.Cover2
import Derived.Laws.FloatArith
import Derived.Test.YtafeeebgleecfaaRt
namespace Go.Proofs.Ytafeeebgleecfaa.fnHSLRoundTripsRGB
open Go.ChangeShapes Go.WideShapes Go.ChangeAt Go.RowKit
open Go.ChangeMaps (open_string shut_string)
set_option linter.unusedVariables false

theorem own : ownKnob Try.prog.godebug = none := by kernel_rfl
theorem laidOut : laidOutB Try.prog = true := by kernel_rfl

open Mat FL
set_option maxHeartbeats 400000 in
theorem zin_any (x : Nat) (w : World) : Calls Try.prog 24 #[.float .f64 x, .float .f64 0, .float .f64 4607182418800017408] w fun e w' => e = .returned (.bool (geB x 0 && leB x 4607182418800017408)) ∧ w = w' := by
  cases h1 : FloatKind.f64.format.order x 0 with
  | none =>
    have g : geB x 0 = false := by unfold geB; rw [show Ieee.double.order x 0 = none from h1]; rfl
    rw [g]
    go_enter Try.func24, Try.ntmps24
    go_wp2
    go_ret
    exact ⟨rfl, rfl⟩
  | some o =>
    cases o
    · have g : geB x 0 = false := by unfold geB; rw [show Ieee.double.order x 0 = some .lt from h1]; rfl
      rw [g]
      go_enter Try.func24, Try.ntmps24
      go_wp2
      go_ret
      exact ⟨rfl, rfl⟩
    · have g : geB x 0 = true := by unfold geB; rw [show Ieee.double.order x 0 = some .eq from h1]; rfl
      rw [g]
      go_enter Try.func24, Try.ntmps24
      go_wp2
      go_ret
      exact ⟨rfl, rfl⟩
    · have g : geB x 0 = true := by unfold geB; rw [show Ieee.double.order x 0 = some .gt from h1]; rfl
      rw [g]
      go_enter Try.func24, Try.ntmps24
      go_wp2
      go_ret
      exact ⟨rfl, rfl⟩
set_option maxHeartbeats 400000 in
theorem zabs_any (x : Nat) (w : World) : Calls Try.prog 52 #[.float .f64 x] w fun e w' => e = .returned (.float .f64 (absW x)) ∧ w = w' := by
  have hn : ∀ w, (Op.unary .neg (.float .f64 x)).run Try.prog w = .ok (.float .f64 (FL.flip x)) w := fun w => rfl
  cases h : ltB x 0 with
  | true =>
    have q : (FloatKind.f64.format.order x 0 == some .lt) = true := h
    have e : absW x = FL.flip x := by unfold absW; rw [h]; rfl
    rw [e]
    clear h e
    go_enter Try.func52, Try.ntmps52
    go_wp2
    go_ret
    exact ⟨rfl, rfl⟩
  | false =>
    have q : (FloatKind.f64.format.order x 0 == some .lt) = false := h
    have e : absW x = x := by unfold absW; rw [h]; rfl
    rw [e]
    clear h e
    go_enter Try.func52, Try.ntmps52
    go_wp2
    go_ret
    exact ⟨rfl, rfl⟩
theorem kTol : Finite 4472406533629990549 ∧ 99 / 100000000000 ≤ val 4472406533629990549 := by constructor <;> decide +kernel
theorem zclose_any (a b : Nat) (fa : Finite a) (fb : Finite b) (h1 : val b - 9 / 10000000000 ≤ val a) (h2 : val a ≤ val b + 9 / 10000000000) (b1 : 0 ≤ val b) (b2 : val b ≤ 1) (w : World) : Calls Try.prog 27 #[.float .f64 a, .float .f64 b, .float .f64 4472406533629990549] w fun e w' => e = .returned (.bool true) ∧ w = w' := by
  obtain ⟨b22, b23⟩ := big1022
  have hu : u = 1 / 9007199254740992 := rfl
  obtain ⟨d, e1, f1, r1⟩ := sub_ok a b fa fb (by grind) (by grind)
  have s1 := r1 1 (by grind) (by grind)
  rw [hu] at s1
  clear r1
  obtain ⟨fw, x1, x2, x3, x4⟩ := absW_ok f1
  obtain ⟨ft, vt⟩ := kTol
  have hle : leB (absW d) 4472406533629990549 = true := by rw [leB_ok fw ft]; exact decide_eq_true (by rcases x4 with e | e <;> rw [e] <;> grind)
  have q : (FloatKind.f64.format.order (absW d) 4472406533629990549 == some .lt || FloatKind.f64.format.order (absW d) 4472406533629990549 == some .eq) = true := hle
  have m1 : ∀ w, (binOp .sub 22 (.float .f64 a) (.float .f64 b)).run Try.prog w = .ok (.float .f64 d) w := fun w => run_float_arith w .sub 22 .f64 _ _ _ e1
  have HA := fun w => zabs_any d w
  generalize absW d = ad at *
  have HA := Lib.hid HA
  clear b22 b23 hu s1 x1 x2 x3 x4 ft vt hle e1 f1 fw h1 h2 b1 b2 fa fb
  go_enter Try.func27, Try.ntmps27
  go_wp2_with (go_at_call 52; refine (HA.out _).mono ?_; rintro e w' ⟨rfl, rfl⟩)
  go_ret
  exact ⟨rfl, rfl⟩
set_option maxRecDepth 100000 in
set_option maxHeartbeats 1000000 in
theorem out1 (r g b : Nat) (w : World) (i1 : Hid ((geB r 0 && leB r 4607182418800017408) = false)) : Calls Try.prog 6 #[.float .f64 r, .float .f64 g, .float .f64 b] w fun e w' => e = .returned (.bool true) ∧ Below w.heap.size w w' := by
  go_enter Try.func6, Try.ntmps6
  go_wp2_with fail
  refine (zin_any _ _).mono ?_
  rintro e w' ⟨rfl, rfl⟩
  rw [i1.out]
  go_wp2
  go_ret
  exact ⟨rfl, Below.refl _ _⟩
set_option maxRecDepth 100000 in
set_option maxHeartbeats 1000000 in
theorem out2 (r g b : Nat) (w : World) (i1 : Hid ((geB r 0 && leB r 4607182418800017408) = true)) (i2 : Hid ((geB g 0 && leB g 4607182418800017408) = false)) : Calls Try.prog 6 #[.float .f64 r, .float .f64 g, .float .f64 b] w fun e w' => e = .returned (.bool true) ∧ Below w.heap.size w w' := by
  go_enter Try.func6, Try.ntmps6
  go_wp2_with fail
  refine (zin_any _ _).mono ?_
  rintro e w' ⟨rfl, rfl⟩
  rw [i1.out]
  go_wp2_with fail
  refine (zin_any _ _).mono ?_
  rintro e w' ⟨rfl, rfl⟩
  rw [i2.out]
  go_wp2
  go_ret
  exact ⟨rfl, Below.refl _ _⟩
set_option maxRecDepth 100000 in
set_option maxHeartbeats 1000000 in
theorem out3 (r g b : Nat) (w : World) (i1 : Hid ((geB r 0 && leB r 4607182418800017408) = true)) (i2 : Hid ((geB g 0 && leB g 4607182418800017408) = true)) (i3 : Hid ((geB b 0 && leB b 4607182418800017408) = false)) : Calls Try.prog 6 #[.float .f64 r, .float .f64 g, .float .f64 b] w fun e w' => e = .returned (.bool true) ∧ Below w.heap.size w w' := by
  go_enter Try.func6, Try.ntmps6
  go_wp2_with fail
  refine (zin_any _ _).mono ?_
  rintro e w' ⟨rfl, rfl⟩
  rw [i1.out]
  go_wp2_with fail
  refine (zin_any _ _).mono ?_
  rintro e w' ⟨rfl, rfl⟩
  rw [i2.out]
  go_wp2_with fail
  refine (zin_any _ _).mono ?_
  rintro e w' ⟨rfl, rfl⟩
  rw [i3.out]
  go_wp2
  go_ret
  exact ⟨rfl, Below.refl _ _⟩
set_option maxRecDepth 100000 in
set_option maxHeartbeats 1000000 in
theorem out4 (r g b : Nat) (w : World) (i1 : Hid ((geB r 0 && leB r 4607182418800017408) = true)) (i2 : Hid ((geB g 0 && leB g 4607182418800017408) = true)) (i3 : Hid ((geB b 0 && leB b 4607182418800017408) = true)) (h1 : eqB r g = true) (h2 : eqB g b = true) : Calls Try.prog 6 #[.float .f64 r, .float .f64 g, .float .f64 b] w fun e w' => e = .returned (.bool true) ∧ Below w.heap.size w w' := by
  have q1 : (FloatKind.f64.format.order r g == some .eq) = true := h1
  have q2 : (FloatKind.f64.format.order g b == some .eq) = true := h2
  clear h1 h2
  go_enter Try.func6, Try.ntmps6
  go_wp2_with fail
  refine (zin_any _ _).mono ?_
  rintro e w' ⟨rfl, rfl⟩
  rw [i1.out]
  go_wp2_with fail
  refine (zin_any _ _).mono ?_
  rintro e w' ⟨rfl, rfl⟩
  rw [i2.out]
  go_wp2_with fail
  refine (zin_any _ _).mono ?_
  rintro e w' ⟨rfl, rfl⟩
  rw [i3.out]
  go_wp2
  go_ret
  exact ⟨rfl, Below.refl _ _⟩
set_option maxRecDepth 100000 in
set_option maxHeartbeats 4000000 in
theorem main_a (r g b h s l z0 z8 z4 : Nat) (w : World) (i1 : Hid ((geB r 0 && leB r 4607182418800017408) = true)) (i2 : Hid ((geB g 0 && leB g 4607182418800017408) = true)) (i3 : Hid ((geB b 0 && leB b 4607182418800017408) = true)) (h1 : eqB r g = false) (H1 : Hid (∀ w, Calls Try.prog 25 #[.float .f64 r, .float .f64 g, .float .f64 b] w fun e w' => e = .returned (.tuple #[.float .f64 h, .float .f64 s, .float .f64 l]) ∧ Below w.heap.size w w')) (H2 : Hid (∀ w, Calls Try.prog 26 #[.float .f64 h, .float .f64 s, .float .f64 l] w fun e w' => e = .returned (.tuple #[.float .f64 z0, .float .f64 z8, .float .f64 z4]) ∧ Below w.heap.size w w'))
    (C0 : Hid (∀ w, Calls Try.prog 27 #[.float .f64 z0, .float .f64 r, .float .f64 4472406533629990549] w fun e w' => e = .returned (.bool true) ∧ w = w')) (C8 : Hid (∀ w, Calls Try.prog 27 #[.float .f64 z8, .float .f64 g, .float .f64 4472406533629990549] w fun e w' => e = .returned (.bool true) ∧ w = w')) (C4 : Hid (∀ w, Calls Try.prog 27 #[.float .f64 z4, .float .f64 b, .float .f64 4472406533629990549] w fun e w' => e = .returned (.bool true) ∧ w = w')) : Calls Try.prog 6 #[.float .f64 r, .float .f64 g, .float .f64 b] w fun e w' => e = .returned (.bool true) ∧ Below w.heap.size w w' := by
  have q1 : (FloatKind.f64.format.order r g == some .eq) = false := h1
  clear h1
  go_enter Try.func6, Try.ntmps6
  go_wp2_with fail
  refine (zin_any _ _).mono ?_
  rintro e w' ⟨rfl, rfl⟩
  rw [i1.out]
  go_wp2_with fail
  refine (zin_any _ _).mono ?_
  rintro e w' ⟨rfl, rfl⟩
  rw [i2.out]
  go_wp2_with fail
  refine (zin_any _ _).mono ?_
  rintro e w' ⟨rfl, rfl⟩
  rw [i3.out]
  go_wp2_with fail
  refine (H1.out _).mono ?_
  rintro e w1 ⟨rfl, b1⟩
  have B1 := Lib.hid b1
  clear b1
  go_wp2_with fail
  refine (H2.out _).mono ?_
  rintro e w2 ⟨rfl, b2⟩
  have B2 := Lib.hid (B1.out.trans (b2.mono B1.out.size))
  clear b2 B1
  go_wp2_with fail
  refine (C0.out _).mono ?_
  rintro e w' ⟨rfl, rfl⟩
  go_wp2_with fail
  refine (C8.out _).mono ?_
  rintro e w' ⟨rfl, rfl⟩
  go_wp2_with fail
  refine (C4.out _).mono ?_
  rintro e w' ⟨rfl, rfl⟩
  go_wp2
  go_ret
  exact ⟨rfl, B2.out⟩
set_option maxRecDepth 100000 in
set_option maxHeartbeats 4000000 in
theorem main_b (r g b h s l z0 z8 z4 : Nat) (w : World) (i1 : Hid ((geB r 0 && leB r 4607182418800017408) = true)) (i2 : Hid ((geB g 0 && leB g 4607182418800017408) = true)) (i3 : Hid ((geB b 0 && leB b 4607182418800017408) = true)) (h1 : eqB r g = true) (h2 : eqB g b = false) (H1 : Hid (∀ w, Calls Try.prog 25 #[.float .f64 r, .float .f64 g, .float .f64 b] w fun e w' => e = .returned (.tuple #[.float .f64 h, .float .f64 s, .float .f64 l]) ∧ Below w.heap.size w w')) (H2 : Hid (∀ w, Calls Try.prog 26 #[.float .f64 h, .float .f64 s, .float .f64 l] w fun e w' => e = .returned (.tuple #[.float .f64 z0, .float .f64 z8, .float .f64 z4]) ∧ Below w.heap.size w w'))
    (C0 : Hid (∀ w, Calls Try.prog 27 #[.float .f64 z0, .float .f64 r, .float .f64 4472406533629990549] w fun e w' => e = .returned (.bool true) ∧ w = w')) (C8 : Hid (∀ w, Calls Try.prog 27 #[.float .f64 z8, .float .f64 g, .float .f64 4472406533629990549] w fun e w' => e = .returned (.bool true) ∧ w = w')) (C4 : Hid (∀ w, Calls Try.prog 27 #[.float .f64 z4, .float .f64 b, .float .f64 4472406533629990549] w fun e w' => e = .returned (.bool true) ∧ w = w')) : Calls Try.prog 6 #[.float .f64 r, .float .f64 g, .float .f64 b] w fun e w' => e = .returned (.bool true) ∧ Below w.heap.size w w' := by
  have q1 : (FloatKind.f64.format.order r g == some .eq) = true := h1
  have q2 : (FloatKind.f64.format.order g b == some .eq) = false := h2
  clear h1 h2
  go_enter Try.func6, Try.ntmps6
  go_wp2_with fail
  refine (zin_any _ _).mono ?_
  rintro e w' ⟨rfl, rfl⟩
  rw [i1.out]
  go_wp2_with fail
  refine (zin_any _ _).mono ?_
  rintro e w' ⟨rfl, rfl⟩
  rw [i2.out]
  go_wp2_with fail
  refine (zin_any _ _).mono ?_
  rintro e w' ⟨rfl, rfl⟩
  rw [i3.out]
  go_wp2_with fail
  refine (H1.out _).mono ?_
  rintro e w1 ⟨rfl, b1⟩
  have B1 := Lib.hid b1
  clear b1
  go_wp2_with fail
  refine (H2.out _).mono ?_
  rintro e w2 ⟨rfl, b2⟩
  have B2 := Lib.hid (B1.out.trans (b2.mono B1.out.size))
  clear b2 B1
  go_wp2_with fail
  refine (C0.out _).mono ?_
  rintro e w' ⟨rfl, rfl⟩
  go_wp2_with fail
  refine (C8.out _).mono ?_
  rintro e w' ⟨rfl, rfl⟩
  go_wp2_with fail
  refine (C4.out _).mono ?_
  rintro e w' ⟨rfl, rfl⟩
  go_wp2
  go_ret
  exact ⟨rfl, B2.out⟩

set_option maxRecDepth 100000 in
set_option maxHeartbeats 4000000 in
/-- THE WALK -/
theorem walk (a0 : Nat) (a1 : Nat) (a2 : Nat) (w : World) (w0 : (Lit.float .f64 a0).wf = true) (w1 : (Lit.float .f64 a1).wf = true) (w2 : (Lit.float .f64 a2).wf = true) :
    Calls Try.prog 6 #[.float .f64 a0, .float .f64 a1, .float .f64 a2] w fun e w' => e = .returned (.bool true) ∧ Below w.heap.size w w' := by
  have hx0 : a0 < 2 ^ 64 := by simpa [Lit.wf] using w0
  have hx1 : a1 < 2 ^ 64 := by simpa [Lit.wf] using w1
  have hx2 : a2 < 2 ^ 64 := by simpa [Lit.wf] using w2
  cases i1 : (geB a0 0 && leB a0 4607182418800017408) with
  | false => exact out1 a0 a1 a2 w (Lib.hid i1)
  | true =>
  cases i2 : (geB a1 0 && leB a1 4607182418800017408) with
  | false => exact out2 a0 a1 a2 w (Lib.hid i1) (Lib.hid i2)
  | true =>
  cases i3 : (geB a2 0 && leB a2 4607182418800017408) with
  | false => exact out3 a0 a1 a2 w (Lib.hid i1) (Lib.hid i2) (Lib.hid i3)
  | true =>
  obtain ⟨fo, vo⟩ := cOne
  have j1 := i1
  have j2 := i2
  have j3 := i3
  simp only [Bool.and_eq_true] at j1 j2 j3
  obtain ⟨f0, r1, r2⟩ := finite_between hx0 fin_zero fo j1.1 j1.2
  obtain ⟨f1, g1, g2⟩ := finite_between hx1 fin_zero fo j2.1 j2.2
  obtain ⟨f2, b1, b2⟩ := finite_between hx2 fin_zero fo j3.1 j3.2
  rw [val_zero] at r1 g1 b1
  rw [vo] at r2 g2 b2
  have e1 := eqB_ok f0 f1
  have e2 := eqB_ok f1 f2
  cases h1 : eqB a0 a1 with
  | true =>
    cases h2 : eqB a1 a2 with
    | true => exact out4 a0 a1 a2 w (Lib.hid i1) (Lib.hid i2) (Lib.hid i3) h1 h2
    | false =>
      rw [h2] at e2
      obtain ⟨h, s, l, z0, z8, z4, H1, H2, ⟨n0, n1, n2⟩, ⟨n3, n4, n5⟩, ⟨n6, n7, n8⟩⟩ := round_all a0 a1 a2 f0 f1 f2 r1 r2 g1 g2 b1 b2 (fun hh => by rw [decide_eq_true hh.2] at e2; cases e2)
      exact main_b a0 a1 a2 h s l z0 z8 z4 w (Lib.hid i1) (Lib.hid i2) (Lib.hid i3) h1 h2 (Lib.hid H1) (Lib.hid H2) (Lib.hid (zclose_any z0 a0 n0 f0 n1 n2 r1 r2)) (Lib.hid (zclose_any z8 a1 n3 f1 n4 n5 g1 g2)) (Lib.hid (zclose_any z4 a2 n6 f2 n7 n8 b1 b2))
  | false =>
    rw [h1] at e1
    obtain ⟨h, s, l, z0, z8, z4, H1, H2, ⟨n0, n1, n2⟩, ⟨n3, n4, n5⟩, ⟨n6, n7, n8⟩⟩ := round_all a0 a1 a2 f0 f1 f2 r1 r2 g1 g2 b1 b2 (fun hh => by rw [decide_eq_true hh.1] at e1; cases e1)
    exact main_a a0 a1 a2 h s l z0 z8 z4 w (Lib.hid i1) (Lib.hid i2) (Lib.hid i3) h1 (Lib.hid H1) (Lib.hid H2) (Lib.hid (zclose_any z0 a0 n0 f0 n1 n2 r1 r2)) (Lib.hid (zclose_any z8 a1 n3 f1 n4 n5 g1 g2)) (Lib.hid (zclose_any z4 a2 n6 f2 n7 n8 b1 b2))

set_option maxRecDepth 100000 in
theorem lifted (os : Os) (started : os.Started) (H : Type) (enc : TypeId × Value → H) :
    ReturnsInHanded {} Try.checked os 6 .any (Rows.fnHSLRoundTripsRGBSpec.pre6 enc Try.prog Try.f6 Rows.fnHSLRoundTripsRGBRow.domain false) (Rows.fnHSLRoundTripsRGBSpec.post enc Try.prog Try.f6 false true false false) := by
  refine returnsInHanded_of_change (C := Try.checked) own started (by kernel_rfl) Try.func6
    (ChangeSpec.witness6 (enc := enc) (C := Try.checked) false ⟨#[], #[.float .f64 0, .float .f64 0, .float .f64 0], []⟩ 8 (by kernel_rfl) (by kernel_rfl) (by kernel_rfl) (by kernel_rfl)) ?_
  intro W base args ds gs before hval0 hW hcnd _
  have hval : ∀ (j : Nat) t v, Try.f6.params[j]? = some t → args[j]? = some v → Value.okWide Try.prog W .any base t v := hval0
  have hW' := hW
  obtain ⟨p, q, hA0, hV, rfl, hfz, hnd⟩ := hW
  have hA : DataW.TrodAll enc Try.prog W 0 (fun _ => true) true Try.f6.params.toList args.toList ds p := hA0
  rw [Try.params6] at hA hval
  obtain ⟨v0, vs0, d0, ds0, p0, q0, hargs, rfl, rfl, h0, r0⟩ := trodAll_cons hA
  obtain ⟨v1, vs1, d1, ds1, p1, q1, rfl, rfl, rfl, h1, r1⟩ := trodAll_cons r0
  obtain ⟨v2, vs2, d2, ds2, p2, q2, rfl, rfl, rfl, h2, r2⟩ := trodAll_cons r1
  obtain ⟨rfl, rfl, rfl⟩ := trodAll_nil r2
  obtain rfl : args = #[v0, v1, v2] := by cases args; simp_all
  obtain ⟨rfl, rfl⟩ := trodVars_none hV
  obtain ⟨a0, rfl, rfl, rfl, w0⟩ := open_float Try.underlying22 (hval 0 22 v0 rfl rfl) h0
  obtain ⟨a1, rfl, rfl, rfl, w1⟩ := open_float Try.underlying22 (hval 1 22 v1 rfl rfl) h1
  obtain ⟨a2, rfl, rfl, rfl, w2⟩ := open_float Try.underlying22 (hval 2 22 v2 rfl rfl) h2
  clear hA0 hval0
  refine (walk a0 a1 a2 W w0 w1 w2).mono fun e W' ⟨he, bel⟩ => ?_
  subst he
  exact ⟨_, rfl, _, _, _, [], _, [], hW', trodAll_mk1 (shut_bool Try.underlying4 _), (trodAll_cons_mk (shut_float Try.underlying22 w0) (trodAll_cons_mk (shut_float Try.underlying22 w1) (trodAll_cons_mk (shut_float Try.underlying22 w2) trodAll_mk0))), rfl, bel.frame _, fun h => by cases h⟩

theorem over : Rows.fnHSLRoundTripsRGBRow.holds Try.pinned (OpenSpec.ofChange Rows.fnHSLRoundTripsRGBSpec) :=
  OpenClaim.holds_of_wide 6 Try.f6 rfl rfl rfl rfl rfl rfl rfl ⟨rfl, rfl, rfl, rfl, rfl⟩ rfl rfl rfl rfl rfl (by kernel_rfl) Try.func6 (by kernel_rfl)
    (of_decide_eq_true (by kernel_rfl)) (by unfold Func.isWrapper; first | (rw [if_pos (by decide +kernel)]; kernel_rfl) | (rw [if_neg (by decide +kernel)]; exact ⟨rfl, rfl⟩))
    (fun os started H enc _ => lifted os started H enc)

/-- THE STATEMENT -/
theorem proved : Rows.FnHSLRoundTripsRGBSaid := over
#print axioms proved
end Go.Proofs.Ytafeeebgleecfaa.fnHSLRoundTripsRGB
