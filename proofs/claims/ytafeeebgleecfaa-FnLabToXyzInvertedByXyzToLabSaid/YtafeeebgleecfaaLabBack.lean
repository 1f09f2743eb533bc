/-
  lab_to_xyz followed by xyz_to_lab gives back every Lab triple within 1e-7, for components within -1000 to 1000 (elsewhere the law asks nothing).
-/
import Derived.Test.YtafeeebgleecfaaRows
import Derived.WalkKit
import Derived.ProofKit
import Derived.OpenShut
import Derived.ShutString
import Derived.ChangeOld
import Derived.Below
import Derived.Lib.Hide
import Derived.Outline
import Derived.Laws.Cover2
import Derived.Laws.FloatArith
import Derived.Test.YtafeeebgleecfaaWs
import Derived.Test.YtafeeebgleecfaaRy
namespace Go.Proofs.Ytafeeebgleecfaa.fnLabToXyzInvertedByXyzToLab
open Go.ChangeShapes Go.WideShapes Go.ChangeAt Go.RowKit
open Go.ChangeMaps (open_string shut_string)
set_option linter.unusedVariables false

theorem own : ownKnob Try.prog.godebug = none := by kernel_rfl
theorem laidOut : laidOutB Try.prog = true := by kernel_rfl

open Mat FL
set_option maxHeartbeats 400000 in
theorem zabs_any (x : Nat) (w : World) : Calls Try.prog 48 #[.float .f64 x] w fun e w' => e = .returned (.float .f64 (absW x)) ∧ w = w' := by
  have hn : ∀ w, (Op.unary .neg (.float .f64 x)).run Try.prog w = .ok (.float .f64 (FL.flip x)) w := fun w => rfl
  cases h : ltB x 0 with
  | true =>
    have q : (FloatKind.f64.format.order x 0 == some .lt) = true := h
    have e : absW x = FL.flip x := by unfold absW; rw [h]; rfl
    rw [e]
    clear h e
    go_enter Try.func48, Try.ntmps48
    go_wp2
    go_ret
    exact ⟨rfl, rfl⟩
  | false =>
    have q : (FloatKind.f64.format.order x 0 == some .lt) = false := h
    have e : absW x = x := by unfold absW; rw [h]; rfl
    rw [e]
    clear h e
    go_enter Try.func48, Try.ntmps48
    go_wp2
    go_ret
    exact ⟨rfl, rfl⟩
set_option maxHeartbeats 400000 in
theorem zin_any (x : Nat) (w : World) : Calls Try.prog 15 #[.float .f64 x, .float .f64 13875379345695965184, .float .f64 4652007308841189376] w fun e w' => e = .returned (.bool (geB x 13875379345695965184 && leB x 4652007308841189376)) ∧ w = w' := by
  cases h1 : FloatKind.f64.format.order x 13875379345695965184 with
  | none =>
    have g : geB x 13875379345695965184 = false := by unfold geB; rw [show Ieee.double.order x 13875379345695965184 = none from h1]; rfl
    rw [g]
    go_enter Try.func15, Try.ntmps15
    go_wp2
    go_ret
    exact ⟨rfl, rfl⟩
  | some o =>
    cases o
    · have g : geB x 13875379345695965184 = false := by unfold geB; rw [show Ieee.double.order x 13875379345695965184 = some .lt from h1]; rfl
      rw [g]
      go_enter Try.func15, Try.ntmps15
      go_wp2
      go_ret
      exact ⟨rfl, rfl⟩
    · have g : geB x 13875379345695965184 = true := by unfold geB; rw [show Ieee.double.order x 13875379345695965184 = some .eq from h1]; rfl
      rw [g]
      go_enter Try.func15, Try.ntmps15
      go_wp2
      go_ret
      exact ⟨rfl, rfl⟩
    · have g : geB x 13875379345695965184 = true := by unfold geB; rw [show Ieee.double.order x 13875379345695965184 = some .gt from h1]; rfl
      rw [g]
      go_enter Try.func15, Try.ntmps15
      go_wp2
      go_ret
      exact ⟨rfl, rfl⟩
theorem kTol : Finite 4502148214488346440 ∧ 95 / 1000000000 ≤ val 4502148214488346440 := by constructor <;> decide +kernel
theorem zclose_any (a b : Nat) (fa : Finite a) (fb : Finite b) (h1 : -(9 / 100000000) ≤ val a - val b) (h2 : val a - val b ≤ 9 / 100000000) (b1 : -1000 ≤ val b) (b2 : val b ≤ 1000) (w : World) : Calls Try.prog 18 #[.float .f64 a, .float .f64 b, .float .f64 4502148214488346440] w fun e w' => e = .returned (.bool true) ∧ w = w' := by
  obtain ⟨b22, b23⟩ := big1022
  have hu : u = 1 / 9007199254740992 := rfl
  obtain ⟨d, e1, f1, r1⟩ := sub_ok a b fa fb (by grind) (by grind)
  have s1 := r1 1 (by grind) (by grind)
  rw [hu] at s1
  clear r1
  obtain ⟨fw, x1, x2, x3, x4⟩ := absW_ok f1
  obtain ⟨ft, vt⟩ := kTol
  have hle : leB (absW d) 4502148214488346440 = true := by rw [leB_ok fw ft]; exact decide_eq_true (by rcases x4 with e | e <;> rw [e] <;> grind)
  have q : (FloatKind.f64.format.order (absW d) 4502148214488346440 == some .lt || FloatKind.f64.format.order (absW d) 4502148214488346440 == some .eq) = true := hle
  have m1 : ∀ w, (binOp .sub 22 (.float .f64 a) (.float .f64 b)).run Try.prog w = .ok (.float .f64 d) w := fun w => run_float_arith w .sub 22 .f64 _ _ _ e1
  have HA := fun w => zabs_any d w
  generalize absW d = ad at *
  have HA := Lib.hid HA
  clear b22 b23 hu s1 x1 x2 x3 x4 ft vt hle e1 f1 fw h1 h2 b1 b2 fa fb
  go_enter Try.func18, Try.ntmps18
  go_wp2_with (go_at_call 48; refine (HA.out _).mono ?_; rintro e w' ⟨rfl, rfl⟩)
  go_ret
  exact ⟨rfl, rfl⟩
set_option maxRecDepth 100000 in
set_option maxHeartbeats 1000000 in
theorem out1 (r g b : Nat) (w : World) (i1 : Hid ((geB r 13875379345695965184 && leB r 4652007308841189376) = false)) : Calls Try.prog 4 #[.float .f64 r, .float .f64 g, .float .f64 b] w fun e w' => e = .returned (.bool true) ∧ Below w.heap.size w w' := by
  go_enter Try.func4, Try.ntmps4
  go_wp2_with fail
  refine (zin_any _ _).mono ?_
  rintro e w' ⟨rfl, rfl⟩
  rw [i1.out]
  go_wp2
  go_ret
  exact ⟨rfl, Below.refl _ _⟩
set_option maxRecDepth 100000 in
set_option maxHeartbeats 1000000 in
theorem out2 (r g b : Nat) (w : World) (i1 : Hid ((geB r 13875379345695965184 && leB r 4652007308841189376) = true)) (i2 : Hid ((geB g 13875379345695965184 && leB g 4652007308841189376) = false)) : Calls Try.prog 4 #[.float .f64 r, .float .f64 g, .float .f64 b] w fun e w' => e = .returned (.bool true) ∧ Below w.heap.size w w' := by
  go_enter Try.func4, Try.ntmps4
  go_wp2_with fail
  refine (zin_any _ _).mono ?_
  rintro e w' ⟨rfl, rfl⟩
  rw [i1.out]
  go_wp2_with fail
  refine (zin_any _ _).mono ?_
  rintro e w' ⟨rfl, rfl⟩
  rw [i2.out]
  go_wp2
  go_ret
  exact ⟨rfl, Below.refl _ _⟩
set_option maxRecDepth 100000 in
set_option maxHeartbeats 1000000 in
theorem out3 (r g b : Nat) (w : World) (i1 : Hid ((geB r 13875379345695965184 && leB r 4652007308841189376) = true)) (i2 : Hid ((geB g 13875379345695965184 && leB g 4652007308841189376) = true)) (i3 : Hid ((geB b 13875379345695965184 && leB b 4652007308841189376) = false)) : Calls Try.prog 4 #[.float .f64 r, .float .f64 g, .float .f64 b] w fun e w' => e = .returned (.bool true) ∧ Below w.heap.size w w' := by
  go_enter Try.func4, Try.ntmps4
  go_wp2_with fail
  refine (zin_any _ _).mono ?_
  rintro e w' ⟨rfl, rfl⟩
  rw [i1.out]
  go_wp2_with fail
  refine (zin_any _ _).mono ?_
  rintro e w' ⟨rfl, rfl⟩
  rw [i2.out]
  go_wp2_with fail
  refine (zin_any _ _).mono ?_
  rintro e w' ⟨rfl, rfl⟩
  rw [i3.out]
  go_wp2
  go_ret
  exact ⟨rfl, Below.refl _ _⟩
set_option maxRecDepth 100000 in
set_option maxHeartbeats 4000000 in
theorem main (r g b h s l z0 z1 z2 : Nat) (w : World) (i1 : Hid ((geB r 13875379345695965184 && leB r 4652007308841189376) = true)) (i2 : Hid ((geB g 13875379345695965184 && leB g 4652007308841189376) = true)) (i3 : Hid ((geB b 13875379345695965184 && leB b 4652007308841189376) = true)) (H1 : Hid (∀ w, Calls Try.prog 16 #[.float .f64 r, .float .f64 g, .float .f64 b] w fun e w' => e = .returned (.tuple #[.float .f64 h, .float .f64 s, .float .f64 l]) ∧ Below w.heap.size w w')) (H2 : Hid (∀ w, Calls Try.prog 17 #[.float .f64 h, .float .f64 s, .float .f64 l] w fun e w' => e = .returned (.tuple #[.float .f64 z0, .float .f64 z1, .float .f64 z2]) ∧ Below w.heap.size w w'))
    (C0 : Hid (∀ w, Calls Try.prog 18 #[.float .f64 z0, .float .f64 r, .float .f64 4502148214488346440] w fun e w' => e = .returned (.bool true) ∧ w = w')) (C1 : Hid (∀ w, Calls Try.prog 18 #[.float .f64 z1, .float .f64 g, .float .f64 4502148214488346440] w fun e w' => e = .returned (.bool true) ∧ w = w')) (C2 : Hid (∀ w, Calls Try.prog 18 #[.float .f64 z2, .float .f64 b, .float .f64 4502148214488346440] w fun e w' => e = .returned (.bool true) ∧ w = w')) : Calls Try.prog 4 #[.float .f64 r, .float .f64 g, .float .f64 b] w fun e w' => e = .returned (.bool true) ∧ Below w.heap.size w w' := by
  go_enter Try.func4, Try.ntmps4
  go_wp2_with fail
  refine (zin_any _ _).mono ?_
  rintro e w' ⟨rfl, rfl⟩
  rw [i1.out]
  go_wp2_with fail
  refine (zin_any _ _).mono ?_
  rintro e w' ⟨rfl, rfl⟩
  rw [i2.out]
  go_wp2_with fail
  refine (zin_any _ _).mono ?_
  rintro e w' ⟨rfl, rfl⟩
  rw [i3.out]
  go_wp2_with fail
  refine (H1.out _).mono ?_
  rintro e w1 ⟨rfl, b1⟩
  have B1 := Lib.hid b1
  clear b1
  go_wp2_with fail
  refine (H2.out _).mono ?_
  rintro e w2 ⟨rfl, b2⟩
  have B2 := Lib.hid (B1.out.trans (b2.mono B1.out.size))
  clear b2 B1
  go_wp2_with fail
  refine (C0.out _).mono ?_
  rintro e w' ⟨rfl, rfl⟩
  go_wp2_with fail
  refine (C1.out _).mono ?_
  rintro e w' ⟨rfl, rfl⟩
  go_wp2_with fail
  refine (C2.out _).mono ?_
  rintro e w' ⟨rfl, rfl⟩
  go_wp2
  go_ret
  exact ⟨rfl, B2.out⟩
theorem kIn : Finite 13875379345695965184 ∧ Finite 4652007308841189376 ∧ val 13875379345695965184 = -1000 ∧ val 4652007308841189376 = 1000 := by refine ⟨?_, ?_, ?_, ?_⟩ <;> decide +kernel
theorem in_ok {x : Nat} (hx : x < 2 ^ 64) (h : (geB x 13875379345695965184 && leB x 4652007308841189376) = true) : Finite x ∧ -1000 ≤ val x ∧ val x ≤ 1000 := by
  obtain ⟨f1, f2, v1, v2⟩ := kIn
  simp only [Bool.and_eq_true] at h
  obtain ⟨f, a, b⟩ := finite_between hx f1 f2 h.1 h.2
  rw [v1] at a
  rw [v2] at b
  exact ⟨f, a, b⟩

set_option maxRecDepth 100000 in
set_option maxHeartbeats 4000000 in
/-- THE WALK -/
theorem walk (a0 : Nat) (a1 : Nat) (a2 : Nat) (w : World) (w0 : (Lit.float .f64 a0).wf = true) (w1 : (Lit.float .f64 a1).wf = true) (w2 : (Lit.float .f64 a2).wf = true) :
    Calls Try.prog 4 #[.float .f64 a0, .float .f64 a1, .float .f64 a2] w fun e w' => e = .returned (.bool true) ∧ Below w.heap.size w w' := by
  have hx0 : a0 < 2 ^ 64 := by simpa [Lit.wf] using w0
  have hx1 : a1 < 2 ^ 64 := by simpa [Lit.wf] using w1
  have hx2 : a2 < 2 ^ 64 := by simpa [Lit.wf] using w2
  cases i1 : (geB a0 13875379345695965184 && leB a0 4652007308841189376) with
  | false => exact out1 a0 a1 a2 w (Lib.hid i1)
  | true =>
  cases i2 : (geB a1 13875379345695965184 && leB a1 4652007308841189376) with
  | false => exact out2 a0 a1 a2 w (Lib.hid i1) (Lib.hid i2)
  | true =>
  cases i3 : (geB a2 13875379345695965184 && leB a2 4652007308841189376) with
  | false => exact out3 a0 a1 a2 w (Lib.hid i1) (Lib.hid i2) (Lib.hid i3)
  | true =>
  obtain ⟨f0, r1, r2⟩ := in_ok hx0 i1
  obtain ⟨f1, g1, g2⟩ := in_ok hx1 i2
  obtain ⟨f2, b1, b2⟩ := in_ok hx2 i3
  obtain ⟨X, Y, Z, L, A, B, H1, H2, n0, n1, n2, ⟨p0, p1⟩, ⟨p2, p3⟩, ⟨p4, p5⟩⟩ := round7 a0 a1 a2 f0 f1 f2 r1 r2 g1 g2 b1 b2
  exact main a0 a1 a2 X Y Z L A B w (Lib.hid i1) (Lib.hid i2) (Lib.hid i3) (Lib.hid (ZZlabToXyz_n011_166_any a0 a1 a2 X Y Z H1)) (Lib.hid (ZZxyzToLab_n011_166_any X Y Z L A B H2)) (Lib.hid (zclose_any L a0 n0 f0 p0 p1 r1 r2)) (Lib.hid (zclose_any A a1 n1 f1 p2 p3 g1 g2)) (Lib.hid (zclose_any B a2 n2 f2 p4 p5 b1 b2))

set_option maxRecDepth 100000 in
theorem lifted (os : Os) (started : os.Started) (H : Type) (enc : TypeId × Value → H) :
    ReturnsInHanded {} Try.checked os 4 .any (Rows.fnLabToXyzInvertedByXyzToLabSpec.pre6 enc Try.prog Try.f4 Rows.fnLabToXyzInvertedByXyzToLabRow.domain false) (Rows.fnLabToXyzInvertedByXyzToLabSpec.post enc Try.prog Try.f4 false true false false) := by
  refine returnsInHanded_of_change (C := Try.checked) own started (by kernel_rfl) Try.func4
    (ChangeSpec.witness6 (enc := enc) (C := Try.checked) false ⟨#[], #[.float .f64 0, .float .f64 0, .float .f64 0], []⟩ 8 (by kernel_rfl) (by kernel_rfl) (by kernel_rfl) (by kernel_rfl)) ?_
  intro W base args ds gs before hval0 hW hcnd _
  have hval : ∀ (j : Nat) t v, Try.f4.params[j]? = some t → args[j]? = some v → Value.okWide Try.prog W .any base t v := hval0
  have hW' := hW
  obtain ⟨p, q, hA0, hV, rfl, hfz, hnd⟩ := hW
  have hA : DataW.TrodAll enc Try.prog W 0 (fun _ => true) true Try.f4.params.toList args.toList ds p := hA0
  rw [Try.params4] at hA hval
  obtain ⟨v0, vs0, d0, ds0, p0, q0, hargs, rfl, rfl, h0, r0⟩ := trodAll_cons hA
  obtain ⟨v1, vs1, d1, ds1, p1, q1, rfl, rfl, rfl, h1, r1⟩ := trodAll_cons r0
  obtain ⟨v2, vs2, d2, ds2, p2, q2, rfl, rfl, rfl, h2, r2⟩ := trodAll_cons r1
  obtain ⟨rfl, rfl, rfl⟩ := trodAll_nil r2
  obtain rfl : args = #[v0, v1, v2] := by cases args; simp_all
  obtain ⟨rfl, rfl⟩ := trodVars_none hV
  obtain ⟨a0, rfl, rfl, rfl, w0⟩ := open_float Try.underlying22 (hval 0 22 v0 rfl rfl) h0
  obtain ⟨a1, rfl, rfl, rfl, w1⟩ := open_float Try.underlying22 (hval 1 22 v1 rfl rfl) h1
  obtain ⟨a2, rfl, rfl, rfl, w2⟩ := open_float Try.underlying22 (hval 2 22 v2 rfl rfl) h2
  clear hA0 hval0
  refine (walk a0 a1 a2 W w0 w1 w2).mono fun e W' ⟨he, bel⟩ => ?_
  subst he
  exact ⟨_, rfl, _, _, _, [], _, [], hW', trodAll_mk1 (shut_bool Try.underlying4 _), (trodAll_cons_mk (shut_float Try.underlying22 w0) (trodAll_cons_mk (shut_float Try.underlying22 w1) (trodAll_cons_mk (shut_float Try.underlying22 w2) trodAll_mk0))), rfl, bel.frame _, fun h => by cases h⟩

theorem over : Rows.fnLabToXyzInvertedByXyzToLabRow.holds Try.pinned (OpenSpec.ofChange Rows.fnLabToXyzInvertedByXyzToLabSpec) :=
  OpenClaim.holds_of_wide 4 Try.f4 rfl rfl rfl rfl rfl rfl rfl ⟨rfl, rfl, rfl, rfl, rfl⟩ rfl rfl rfl rfl rfl (by kernel_rfl) Try.func4 (by kernel_rfl)
    (of_decide_eq_true (by kernel_rfl)) (by unfold Func.isWrapper; first | (rw [if_pos (by decide +kernel)]; kernel_rfl) | (rw [if_neg (by decide +kernel)]; exact ⟨rfl, rfl⟩))
    (fun os started H enc _ => lifted os started H enc)

/-- THE STATEMENT -/
theorem proved : Rows.FnLabToXyzInvertedByXyzToLabSaid := over
#print axioms proved
end Go.Proofs.Ytafeeebgleecfaa.fnLabToXyzInvertedByXyzToLab
