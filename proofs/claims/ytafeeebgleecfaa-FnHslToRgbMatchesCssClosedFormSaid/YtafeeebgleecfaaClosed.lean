/-
  hslToRgb is within 1e-9 of the closed form for hues within 10000 and saturation and light in 0..1; no conditions.
-/
import Derived.Test.YtafeeebgleecfaaRows
import Derived.WalkKit
import Derived.ProofKit
import Derived.OpenShut
import Derived.ShutString
import Derived.ChangeOld
import Derived.Below
import Derived.Lib.Hide
import Derived.Outline
import Derived.Laws.Cover2
import Derived.Laws.Cover2
import Derived.Laws.FloatArith
import Derived.Test.YtafeeebgleecfaaHc
namespace Go.Proofs.Ytafeeebgleecfaa.fnHslToRgbMatchesCssClosedForm
open Go.ChangeShapes Go.WideShapes Go.ChangeAt Go.RowKit
open Go.ChangeMaps (open_string shut_string)
set_option linter.unusedVariables false

theorem own : ownKnob Try.prog.godebug = none := by kernel_rfl
theorem laidOut : laidOutB Try.prog = true := by kernel_rfl

open Mat FL
set_option maxHeartbeats 400000 in
theorem zmin_any (x y : Nat) (w : World) : Calls Try.prog 12 #[.float .f64 x, .float .f64 y] w fun e w' => e = .returned (.float .f64 (minF x y)) ∧ w = w' := by
  cases h : ltB x y with
  | true =>
    have q : (FloatKind.f64.format.order x y == some .lt) = true := h
    have e : minF x y = x := by unfold minF; rw [h]; rfl
    rw [e]
    clear h e
    go_enter Try.func12, Try.ntmps12
    go_wp2
    go_ret
    exact ⟨rfl, rfl⟩
  | false =>
    have q : (FloatKind.f64.format.order x y == some .lt) = false := h
    have e : minF x y = y := by unfold minF; rw [h]; rfl
    rw [e]
    clear h e
    go_enter Try.func12, Try.ntmps12
    go_wp2
    go_ret
    exact ⟨rfl, rfl⟩
set_option maxHeartbeats 400000 in
theorem zmax_any (x y : Nat) (w : World) : Calls Try.prog 45 #[.float .f64 x, .float .f64 y] w fun e w' => e = .returned (.float .f64 (maxF x y)) ∧ w = w' := by
  cases h : gtB x y with
  | true =>
    have q : (FloatKind.f64.format.order x y == some .gt) = true := h
    have e : maxF x y = x := by unfold maxF; rw [h]; rfl
    rw [e]
    clear h e
    go_enter Try.func45, Try.ntmps45
    go_wp2
    go_ret
    exact ⟨rfl, rfl⟩
  | false =>
    have q : (FloatKind.f64.format.order x y == some .gt) = false := h
    have e : maxF x y = y := by unfold maxF; rw [h]; rfl
    rw [e]
    clear h e
    go_enter Try.func45, Try.ntmps45
    go_wp2
    go_ret
    exact ⟨rfl, rfl⟩
theorem kTol : Finite 4472406533629990549 ∧ 99 / 100000000000 ≤ val 4472406533629990549 := by constructor <;> decide +kernel
set_option maxHeartbeats 400000 in
theorem znear_any (a b : Nat) (fa : Finite a) (fb : Finite b) (h1 : val b - 9 / 10000000000 ≤ val a) (h2 : val a ≤ val b + 9 / 10000000000) (b1 : -3 ≤ val b) (b2 : val b ≤ 3) (w : World) : Calls Try.prog 13 #[.float .f64 a, .float .f64 b] w fun e w' => e = .returned (.bool true) ∧ w = w' := by
  obtain ⟨b22, b23⟩ := big1022
  have hu : u = 1 / 9007199254740992 := rfl
  obtain ⟨d, e1, f1, r1⟩ := sub_ok a b fa fb (by grind) (by grind)
  have s1 := r1 1 (by grind) (by grind)
  rw [hu] at s1
  clear r1
  obtain ⟨ft, vt⟩ := kTol
  have hl := ltB_ok f1 fin_zero
  rw [val_zero] at hl
  have m1 : ∀ w, (binOp .sub 22 (.float .f64 a) (.float .f64 b)).run Try.prog w = .ok (.float .f64 d) w := fun w => run_float_arith w .sub 22 .f64 _ _ _ e1
  by_cases hd : val d < 0
  · rw [decide_eq_true hd] at hl
    have q1 : (FloatKind.f64.format.order d 0 == some .lt) = true := hl
    have hn : ∀ w, (Op.unary .neg (.float .f64 d)).run Try.prog w = .ok (.float .f64 (FL.flip d)) w := fun w => rfl
    have hle : leB (FL.flip d) 4472406533629990549 = true := by rw [leB_ok (flip_fin d f1) ft, flip_val d f1.1]; exact decide_eq_true (by grind)
    have q2 : (FloatKind.f64.format.order (FL.flip d) 4472406533629990549 == some .lt || FloatKind.f64.format.order (FL.flip d) 4472406533629990549 == some .eq) = true := hle
    generalize FL.flip d = nd at *
    clear b22 b23 hu s1 ft vt hle e1 f1 h1 h2 b1 b2 fa fb hl hd
    go_enter Try.func13, Try.ntmps13
    go_wp2
    go_ret
    exact ⟨rfl, rfl⟩
  · rw [decide_eq_false hd] at hl
    have q1 : (FloatKind.f64.format.order d 0 == some .lt) = false := hl
    have hle : leB d 4472406533629990549 = true := by rw [leB_ok f1 ft]; exact decide_eq_true (by grind)
    have q2 : (FloatKind.f64.format.order d 4472406533629990549 == some .lt || FloatKind.f64.format.order d 4472406533629990549 == some .eq) = true := hle
    clear b22 b23 hu s1 ft vt hle e1 f1 h1 h2 b1 b2 fa fb hl hd
    go_enter Try.func13, Try.ntmps13
    go_wp2
    go_ret
    exact ⟨rfl, rfl⟩
set_option maxHeartbeats 400000 in
theorem zmod_any (x : Nat) (fx : Finite x) (h1 : -400 ≤ val x) (h2 : val x ≤ 400) : ∃ k, (∀ w, Calls Try.prog 44 #[.float .f64 x] w fun e w' => e = .returned (.float .f64 k) ∧ w = w') ∧ Finite k ∧ -1 / 10000000000 ≤ val k ∧ val k ≤ 12 + 1 / 10000000000 ∧ ∃ kf : Int, val x - 12 * (kf : Rat) - 1 / 1000000000000 ≤ val k ∧ val k ≤ val x - 12 * (kf : Rat) + 1 / 1000000000000 := by
  obtain ⟨q, e1, fq, q1, q2, hall⟩ := modlaw x fx h1 h2
  obtain ⟨n, hn, hc⟩ := floor49 q fq q1 q2
  have m1 : ∀ w, (binOp .quo 22 (.float .f64 x) (.float .f64 4622945017495814144)).run Try.prog w = .ok (.float .f64 q) w := fun w => run_float_arith w .quo 22 .f64 _ _ _ e1
  have c1 : ∀ w, (convert 22 2 (.float .f64 q)).run Try.prog w = .ok (.int .i64 n) w := fun w => run_convert_float_int w 22 2 .f64 .i64 _ _ rfl rfl hn
  rcases hc with ⟨hg, f, kf, hv, g1, g2⟩ | ⟨hg, F, hs, f, kf, hv, g1, g2⟩
  · obtain ⟨G, k, e2, e3, fk, k1, k2, k3, k4⟩ := hall _ kf f hv g1 g2
    refine ⟨k, fun w => ?_, fk, k1, k2, kf, k3, k4⟩
    have q : (FloatKind.f64.format.order (floatOfInt .f64 n) q == some .gt) = false := hg
    have m2 : ∀ w, (binOp .mul 22 (.float .f64 4622945017495814144) (.float .f64 (floatOfInt .f64 n))).run Try.prog w = .ok (.float .f64 G) w := fun w => run_float_arith w .mul 22 .f64 _ _ _ e2
    have m3 : ∀ w, (binOp .sub 22 (.float .f64 x) (.float .f64 G)).run Try.prog w = .ok (.float .f64 k) w := fun w => run_float_arith w .sub 22 .f64 _ _ _ e3
    clear hg f hv g1 g2 hn h1 h2 fx hall e1 e2 e3 fk k1 k2 k3 k4 q1 q2 fq
    go_enter Try.func44, Try.ntmps44
    go_wp2
    go_ret
    exact ⟨rfl, rfl⟩
  · obtain ⟨G, k, e2, e3, fk, k1, k2, k3, k4⟩ := hall _ kf f hv g1 g2
    refine ⟨k, fun w => ?_, fk, k1, k2, kf, k3, k4⟩
    have q : (FloatKind.f64.format.order (floatOfInt .f64 n) q == some .gt) = true := hg
    have m0 : ∀ w, (binOp .sub 22 (.float .f64 (floatOfInt .f64 n)) (.float .f64 4607182418800017408)).run Try.prog w = .ok (.float .f64 F) w := fun w => run_float_arith w .sub 22 .f64 _ _ _ hs
    have m2 : ∀ w, (binOp .mul 22 (.float .f64 4622945017495814144) (.float .f64 F)).run Try.prog w = .ok (.float .f64 G) w := fun w => run_float_arith w .mul 22 .f64 _ _ _ e2
    have m3 : ∀ w, (binOp .sub 22 (.float .f64 x) (.float .f64 G)).run Try.prog w = .ok (.float .f64 k) w := fun w => run_float_arith w .sub 22 .f64 _ _ _ e3
    clear hg f hv g1 g2 hn h1 h2 fx hall e1 e2 e3 fk k1 k2 k3 k4 q1 q2 fq hs
    go_enter Try.func44, Try.ntmps44
    go_wp2
    go_ret
    exact ⟨rfl, rfl⟩
set_option maxHeartbeats 1000000 in
/-- the closed form's channel -/
theorem zchan_any (n h l a : Nat) (nv : Rat) (fn : Finite n) (vn : val n = nv) (n1 : 0 ≤ nv) (n2 : nv ≤ 8) (fh : Finite h) (h1 : -10000 ≤ val h) (h2 : val h ≤ 10000) (fl : Finite l) (l1 : 0 ≤ val l) (l2 : val l ≤ 1) (fa : Finite a) (a1 : 0 ≤ val a) (a2 : val a ≤ 1) :
    ∃ z, (∀ w, Calls Try.prog 14 #[.float .f64 n, .float .f64 h, .float .f64 l, .float .f64 a] w fun e w' => e = .returned (.float .f64 z) ∧ w = w') ∧ Finite z ∧ ∃ k y T : Rat, -1 / 10000000000 ≤ k ∧ k ≤ 12 + 1 / 10000000000 ∧ (∃ kf : Int, nv + val h / 30 - 12 * (kf : Rat) - 1 / 100000000000 ≤ k ∧ k ≤ nv + val h / 30 - 12 * (kf : Rat) + 1 / 100000000000) ∧ (y = k - 3 ∨ y = 9 - k ∨ y = 1) ∧ y ≤ k - 3 ∧ y ≤ 9 - k ∧ y ≤ 1 ∧ (-1 ≤ y → T = y) ∧ (y ≤ -1 → T = -1) ∧ -1 ≤ T ∧ T ≤ 1 ∧ val l - val a * T - 1 / 1000000000000 ≤ val z ∧ val z ≤ val l - val a * T + 1 / 1000000000000 := by
  obtain ⟨b22, b23⟩ := big1022
  have hu : u = 1 / 9007199254740992 := rfl
  have he := eta_nano
  have he0 := eta_pos
  obtain ⟨fc, vc⟩ := c30
  obtain ⟨hq, e1, f1, r1⟩ := div_ok h 4629137466983448576 fh fc (by rw [vc]; decide +kernel) (val h / 30) (by rw [vc]; grind) (by grind) (by grind)
  have s1 := r1 334 (by grind) (by grind)
  rw [hu] at s1
  clear r1
  obtain ⟨kx, e2, f2, r2⟩ := add_ok n hq fn f1 (by rw [vn]; grind) (by rw [vn]; grind)
  rw [vn] at r2
  have s2 := r2 343 (by grind) (by grind)
  rw [hu] at s2
  clear r2
  obtain ⟨k, hk, fk, k1, k2, kf, k3, k4⟩ := zmod_any kx f2 (by grind) (by grind)
  obtain ⟨x1, x2, y, z, e3, e4, e5, e6, fz, wv, T, w1, w2, w3, w4, t1, t2, t3, t4, z1, z2⟩ := shapelaw k l a fk fl fa (by grind) (by grind) l1 l2 a1 a2
  refine ⟨z, fun w => ?_, fz, val k, wv, T, k1, k2, ⟨kf, by grind, by grind⟩, w1, w2, w3, w4, t1, t2, t3, t4, z1, z2⟩
  have m1 : ∀ w, (binOp .quo 22 (.float .f64 h) (.float .f64 4629137466983448576)).run Try.prog w = .ok (.float .f64 hq) w := fun w => run_float_arith w .quo 22 .f64 _ _ _ e1
  have m2 : ∀ w, (binOp .add 22 (.float .f64 n) (.float .f64 hq)).run Try.prog w = .ok (.float .f64 kx) w := fun w => run_float_arith w .add 22 .f64 _ _ _ e2
  have m3 : ∀ w, (binOp .sub 22 (.float .f64 k) (.float .f64 4613937818241073152)).run Try.prog w = .ok (.float .f64 x1) w := fun w => run_float_arith w .sub 22 .f64 _ _ _ e3
  have m4 : ∀ w, (binOp .sub 22 (.float .f64 4621256167635550208) (.float .f64 k)).run Try.prog w = .ok (.float .f64 x2) w := fun w => run_float_arith w .sub 22 .f64 _ _ _ e4
  have H1 := fun w => zmin_any x1 x2 w
  have H2 := fun w => zmin_any (minF x1 x2) 4607182418800017408 w
  have H3 := fun w => zmax_any 13830554455654793216 (minF (minF x1 x2) 4607182418800017408) w
  generalize maxF 13830554455654793216 (minF (minF x1 x2) 4607182418800017408) = v3 at *
  generalize minF (minF x1 x2) 4607182418800017408 = v2 at *
  generalize minF x1 x2 = v1 at *
  have m5 : ∀ w, (binOp .mul 22 (.float .f64 a) (.float .f64 v3)).run Try.prog w = .ok (.float .f64 y) w := fun w => run_float_arith w .mul 22 .f64 _ _ _ e5
  have m6 : ∀ w, (binOp .sub 22 (.float .f64 l) (.float .f64 y)).run Try.prog w = .ok (.float .f64 z) w := fun w => run_float_arith w .sub 22 .f64 _ _ _ e6
  have K := Lib.hid hk
  have K1 := Lib.hid H1
  have K2 := Lib.hid H2
  have K3 := Lib.hid H3
  clear hk H1 H2 H3 e1 e2 e3 e4 e5 e6 fz w1 w2 w3 w4 t1 t2 t3 t4 z1 z2 k1 k2 k3 k4 s1 s2 fk b22 b23 hu he he0 fc vc f1 f2 fn vn n1 n2 fh h1 h2 fl l1 l2 fa a1 a2
  go_enter Try.func14, Try.ntmps14
  go_wp2_with fail
  refine (K.out _).mono ?_
  rintro e w' ⟨rfl, rfl⟩
  go_wp2_with fail
  refine (K1.out _).mono ?_
  rintro e w' ⟨rfl, rfl⟩
  go_wp2_with fail
  refine (K2.out _).mono ?_
  rintro e w' ⟨rfl, rfl⟩
  go_wp2_with fail
  refine (K3.out _).mono ?_
  rintro e w' ⟨rfl, rfl⟩
  go_wp2
  go_ret
  exact ⟨rfl, rfl⟩
/-- the law's own saturation step -/
theorem amp6 (s l : Nat) (A : Rat) (fs : Finite s) (fl : Finite l) (s1 : 0 ≤ val s) (s2 : val s ≤ 1) (l1 : 0 ≤ val l) (l2 : val l ≤ 1) (hE : Ends6 (val s) (val l) A) :
    ∃ om a, Ieee.double.sub 4607182418800017408 l = some om ∧ Ieee.double.mul s (minF l om) = some a ∧ Finite a ∧ 0 ≤ val a ∧ val a ≤ 1 ∧ A - 1 / 1000000000000 ≤ val a ∧ val a ≤ A + 1 / 1000000000000 := by
  obtain ⟨b22, b23⟩ := big1022
  have hu : u = 1 / 9007199254740992 := rfl
  have he := eta_nano
  have he0 := eta_pos
  obtain ⟨fo, vo⟩ := cOne
  obtain ⟨A1, A2, A3, A4⟩ := ends6_le hE s1 s2 l1 l2
  obtain ⟨om, e1, f1, r1⟩ := sub_ok 4607182418800017408 l fo fl (by rw [vo]; grind) (by rw [vo]; grind)
  rw [vo] at r1
  have c1 := r1 (1 - val l) (by grind) Rat.le_refl
  rw [hu] at c1
  clear r1
  have m1 := minF_ok fl f1
  have mnn : 0 ≤ val (minF l om) := by rcases m1.2.2.2 with e | e <;> rw [e] <;> grind
  have mle : val (minF l om) ≤ 6 / 10 := by grind
  have p1 := Rat.mul_nonneg s1 mnn
  have p2 := Rat.mul_le_mul_of_nonneg_right s2 mnn
  obtain ⟨a, e2, f2, r2⟩ := mul_ok s (minF l om) fs m1.1 (by grind) (by grind)
  have c2 := r2 1 (by grind) (by grind)
  rw [hu] at c2
  clear r2
  have hnn : 0 ≤ val a := by
    obtain ⟨b, kk, i, e, v⟩ := mul_form fs m1.1
    replace e := Option.some.inj (e2.symm.trans e)
    have h0 := (form_bound (c := 0) (j := 0) v (by grind) (by grind) (by decide) (by decide)).2.2.2
    have z : ((0 : Nat) : Rat) * FL.p2 0 = 0 := Rat.zero_mul _
    rw [z, ← e] at h0
    exact h0 p1
  have near : A - 1 / 10000000000000 ≤ val s * val (minF l om) ∧ val s * val (minF l om) ≤ A + 1 / 10000000000000 := by
    rcases hE with ⟨hl, hA⟩ | ⟨hl, hA⟩
    · have d1 : -(1 / 1000000000000000) ≤ val (minF l om) - val l ∧ val (minF l om) - val l ≤ 1 / 1000000000000000 := by
        rcases m1.2.2.2 with e | e <;> rw [e] at m1 ⊢ <;> grind
      have q := mul_le_abs (a := val (minF l om) - val l) (b := val s) (M := 1 / 1000000000000000) (by grind) (by grind) (by grind) (by grind)
      rw [hA]; exact ⟨by grind, by grind⟩
    · have d1 : -(1 / 1000000000000000) ≤ val (minF l om) - (1 - val l) ∧ val (minF l om) - (1 - val l) ≤ 1 / 1000000000000000 := by
        rcases m1.2.2.2 with e | e <;> rw [e] at m1 ⊢ <;> grind
      have q := mul_le_abs (a := val (minF l om) - (1 - val l)) (b := val s) (M := 1 / 1000000000000000) (by grind) (by grind) (by grind) (by grind)
      rw [hA]; exact ⟨by grind, by grind⟩
  exact ⟨om, a, e1, e2, f2, hnn, by grind, by grind, by grind⟩
/-- a channel of the program and the law's own are near each other -/
theorem chan_near (hv l A off nv : Rat) (z z' a : Nat) (hn : off - nv / 2 - 2 = 0 ∨ off - nv / 2 - 2 = -6) (hC : Ch hv l A off z) (A1 : 0 ≤ A) (A2 : A ≤ 1) (l1 : 0 ≤ l) (l2 : l ≤ 1) (a1 : A - 1 / 1000000000000 ≤ val a) (a2 : val a ≤ A + 1 / 1000000000000) (k y T : Rat) (k0 : -1 / 10000000000 ≤ k) (k1 : k ≤ 12 + 1 / 10000000000) (kf : Int) (k3 : nv + hv / 30 - 12 * (kf : Rat) - 1 / 100000000000 ≤ k) (k4 : k ≤ nv + hv / 30 - 12 * (kf : Rat) + 1 / 100000000000)
    (y1 : y = k - 3 ∨ y = 9 - k ∨ y = 1) (y2 : y ≤ k - 3) (y3 : y ≤ 9 - k) (y4 : y ≤ 1) (t1 : -1 ≤ y → T = y) (t2 : y ≤ -1 → T = -1) (t3 : -1 ≤ T) (t4 : T ≤ 1) (z1 : l - val a * T - 1 / 1000000000000 ≤ val z') (z2 : val z' ≤ l - val a * T + 1 / 1000000000000) :
    val z' - 9 / 10000000000 ≤ val z ∧ val z ≤ val z' + 9 / 10000000000 ∧ -3 ≤ val z' ∧ val z' ≤ 3 := by
  obtain ⟨-, x, s, hS, x0, x1, ⟨j, j1, j2⟩, w1, w2⟩ := hC
  have key : -1 / 2000000000 ≤ 2 * s - 1 + T ∧ 2 * s - 1 + T ≤ 1 / 2000000000 := by
    rcases hn with hn | hn
    · have ej : ((kf - j : Int) : Rat) = (kf : Rat) - (j : Rat) := Rat.intCast_sub _ _
      exact opposite x s k y T (kf - j) hS x0 x1 k0 k1 (by rw [ej]; grind) (by rw [ej]; grind) y1 y2 y3 y4 t1 t2
    · have ej : ((kf - j - 1 : Int) : Rat) = (kf : Rat) - (j : Rat) - 1 := by rw [Rat.intCast_sub, Rat.intCast_sub]; rfl
      exact opposite x s k y T (kf - j - 1) hS x0 x1 k0 k1 (by rw [ej]; grind) (by rw [ej]; grind) y1 y2 y3 y4 t1 t2
  have q1 := scale (x := 2 * s - 1 + T) (t := A) (M := 1 / 2000000000) (by grind) (by grind) A1 A2
  have q2 := mul_le_abs (a := val a - A) (b := T) (M := 1 / 1000000000000) (by grind) (by grind) (by grind) (by grind)
  have q3 := mul_le_abs (a := A) (b := T) (M := 1) (by grind) (by grind) (by grind) (by grind)
  have q3' := scale (x := T) (t := A) (M := 1) (by grind) (by grind) A1 A2
  have ep : val a * T = A * T + (val a - A) * T := by grind
  have eq : l + A * (2 * s - 1) = l - A * T + (2 * s - 1 + T) * A := by grind
  exact ⟨by grind, by grind, by grind, by grind⟩
set_option maxRecDepth 100000 in
set_option maxHeartbeats 1000000 in
theorem out0 (h s l : Nat) (w : World) (h0 : geB h 13890095209322119168 = false) : Calls Try.prog 3 #[.float .f64 h, .float .f64 s, .float .f64 l] w fun e w' => e = .returned (.bool true) ∧ Below w.heap.size w w' := by
  have q0 : (FloatKind.f64.format.order h 13890095209322119168 == some .gt || FloatKind.f64.format.order h 13890095209322119168 == some .eq) = false := h0
  clear h0
  go_enter Try.func3, Try.ntmps3
  go_wp2
  go_ret
  exact ⟨rfl, Below.refl _ _⟩
set_option maxRecDepth 100000 in
set_option maxHeartbeats 1000000 in
theorem out1 (h s l : Nat) (w : World) (h0 : geB h 13890095209322119168 = true) (h1 : leB h 4666723172467343360 = false) : Calls Try.prog 3 #[.float .f64 h, .float .f64 s, .float .f64 l] w fun e w' => e = .returned (.bool true) ∧ Below w.heap.size w w' := by
  have q0 : (FloatKind.f64.format.order h 13890095209322119168 == some .gt || FloatKind.f64.format.order h 13890095209322119168 == some .eq) = true := h0
  have q1 : (FloatKind.f64.format.order h 4666723172467343360 == some .lt || FloatKind.f64.format.order h 4666723172467343360 == some .eq) = false := h1
  clear h0 h1
  go_enter Try.func3, Try.ntmps3
  go_wp2
  go_ret
  exact ⟨rfl, Below.refl _ _⟩
set_option maxRecDepth 100000 in
set_option maxHeartbeats 1000000 in
theorem out2 (h s l : Nat) (w : World) (h0 : geB h 13890095209322119168 = true) (h1 : leB h 4666723172467343360 = true) (h2 : geB s 0 = false) : Calls Try.prog 3 #[.float .f64 h, .float .f64 s, .float .f64 l] w fun e w' => e = .returned (.bool true) ∧ Below w.heap.size w w' := by
  have q0 : (FloatKind.f64.format.order h 13890095209322119168 == some .gt || FloatKind.f64.format.order h 13890095209322119168 == some .eq) = true := h0
  have q1 : (FloatKind.f64.format.order h 4666723172467343360 == some .lt || FloatKind.f64.format.order h 4666723172467343360 == some .eq) = true := h1
  have q2 : (FloatKind.f64.format.order s 0 == some .gt || FloatKind.f64.format.order s 0 == some .eq) = false := h2
  clear h0 h1 h2
  go_enter Try.func3, Try.ntmps3
  go_wp2
  go_ret
  exact ⟨rfl, Below.refl _ _⟩
set_option maxRecDepth 100000 in
set_option maxHeartbeats 1000000 in
theorem out3 (h s l : Nat) (w : World) (h0 : geB h 13890095209322119168 = true) (h1 : leB h 4666723172467343360 = true) (h2 : geB s 0 = true) (h3 : leB s 4607182418800017408 = false) : Calls Try.prog 3 #[.float .f64 h, .float .f64 s, .float .f64 l] w fun e w' => e = .returned (.bool true) ∧ Below w.heap.size w w' := by
  have q0 : (FloatKind.f64.format.order h 13890095209322119168 == some .gt || FloatKind.f64.format.order h 13890095209322119168 == some .eq) = true := h0
  have q1 : (FloatKind.f64.format.order h 4666723172467343360 == some .lt || FloatKind.f64.format.order h 4666723172467343360 == some .eq) = true := h1
  have q2 : (FloatKind.f64.format.order s 0 == some .gt || FloatKind.f64.format.order s 0 == some .eq) = true := h2
  have q3 : (FloatKind.f64.format.order s 4607182418800017408 == some .lt || FloatKind.f64.format.order s 4607182418800017408 == some .eq) = false := h3
  clear h0 h1 h2 h3
  go_enter Try.func3, Try.ntmps3
  go_wp2
  go_ret
  exact ⟨rfl, Below.refl _ _⟩
set_option maxRecDepth 100000 in
set_option maxHeartbeats 1000000 in
theorem out4 (h s l : Nat) (w : World) (h0 : geB h 13890095209322119168 = true) (h1 : leB h 4666723172467343360 = true) (h2 : geB s 0 = true) (h3 : leB s 4607182418800017408 = true) (h4 : geB l 0 = false) : Calls Try.prog 3 #[.float .f64 h, .float .f64 s, .float .f64 l] w fun e w' => e = .returned (.bool true) ∧ Below w.heap.size w w' := by
  have q0 : (FloatKind.f64.format.order h 13890095209322119168 == some .gt || FloatKind.f64.format.order h 13890095209322119168 == some .eq) = true := h0
  have q1 : (FloatKind.f64.format.order h 4666723172467343360 == some .lt || FloatKind.f64.format.order h 4666723172467343360 == some .eq) = true := h1
  have q2 : (FloatKind.f64.format.order s 0 == some .gt || FloatKind.f64.format.order s 0 == some .eq) = true := h2
  have q3 : (FloatKind.f64.format.order s 4607182418800017408 == some .lt || FloatKind.f64.format.order s 4607182418800017408 == some .eq) = true := h3
  have q4 : (FloatKind.f64.format.order l 0 == some .gt || FloatKind.f64.format.order l 0 == some .eq) = false := h4
  clear h0 h1 h2 h3 h4
  go_enter Try.func3, Try.ntmps3
  go_wp2
  go_ret
  exact ⟨rfl, Below.refl _ _⟩
set_option maxRecDepth 100000 in
set_option maxHeartbeats 1000000 in
theorem out5 (h s l : Nat) (w : World) (h0 : geB h 13890095209322119168 = true) (h1 : leB h 4666723172467343360 = true) (h2 : geB s 0 = true) (h3 : leB s 4607182418800017408 = true) (h4 : geB l 0 = true) (h5 : leB l 4607182418800017408 = false) : Calls Try.prog 3 #[.float .f64 h, .float .f64 s, .float .f64 l] w fun e w' => e = .returned (.bool true) ∧ Below w.heap.size w w' := by
  have q0 : (FloatKind.f64.format.order h 13890095209322119168 == some .gt || FloatKind.f64.format.order h 13890095209322119168 == some .eq) = true := h0
  have q1 : (FloatKind.f64.format.order h 4666723172467343360 == some .lt || FloatKind.f64.format.order h 4666723172467343360 == some .eq) = true := h1
  have q2 : (FloatKind.f64.format.order s 0 == some .gt || FloatKind.f64.format.order s 0 == some .eq) = true := h2
  have q3 : (FloatKind.f64.format.order s 4607182418800017408 == some .lt || FloatKind.f64.format.order s 4607182418800017408 == some .eq) = true := h3
  have q4 : (FloatKind.f64.format.order l 0 == some .gt || FloatKind.f64.format.order l 0 == some .eq) = true := h4
  have q5 : (FloatKind.f64.format.order l 4607182418800017408 == some .lt || FloatKind.f64.format.order l 4607182418800017408 == some .eq) = false := h5
  clear h0 h1 h2 h3 h4 h5
  go_enter Try.func3, Try.ntmps3
  go_wp2
  go_ret
  exact ⟨rfl, Below.refl _ _⟩
set_option maxRecDepth 100000 in
set_option maxHeartbeats 4000000 in
theorem main6 (h s l zr zg zb om a y0 y8 y4 : Nat) (w : World) (h0 : geB h 13890095209322119168 = true) (h1 : leB h 4666723172467343360 = true) (h2 : geB s 0 = true) (h3 : leB s 4607182418800017408 = true) (h4 : geB l 0 = true) (h5 : leB l 4607182418800017408 = true) (H1 : Hid (∀ w, Calls Try.prog 11 #[.float .f64 h, .float .f64 s, .float .f64 l] w fun e w' => e = .returned (.tuple #[.float .f64 zr, .float .f64 zg, .float .f64 zb]) ∧ Below w.heap.size w w')) (k1 : Ieee.double.sub 4607182418800017408 l = some om) (k2 : Ieee.double.mul s (minF l om) = some a)
    (Z0 : Hid (∀ w, Calls Try.prog 14 #[.float .f64 0, .float .f64 h, .float .f64 l, .float .f64 a] w fun e w' => e = .returned (.float .f64 y0) ∧ w = w')) (Z8 : Hid (∀ w, Calls Try.prog 14 #[.float .f64 4620693217682128896, .float .f64 h, .float .f64 l, .float .f64 a] w fun e w' => e = .returned (.float .f64 y8) ∧ w = w')) (Z4 : Hid (∀ w, Calls Try.prog 14 #[.float .f64 4616189618054758400, .float .f64 h, .float .f64 l, .float .f64 a] w fun e w' => e = .returned (.float .f64 y4) ∧ w = w')) (N0 : Hid (∀ w, Calls Try.prog 13 #[.float .f64 zr, .float .f64 y0] w fun e w' => e = .returned (.bool true) ∧ w = w')) (N8 : Hid (∀ w, Calls Try.prog 13 #[.float .f64 zg, .float .f64 y8] w fun e w' => e = .returned (.bool true) ∧ w = w')) (N4 : Hid (∀ w, Calls Try.prog 13 #[.float .f64 zb, .float .f64 y4] w fun e w' => e = .returned (.bool true) ∧ w = w')) : Calls Try.prog 3 #[.float .f64 h, .float .f64 s, .float .f64 l] w fun e w' => e = .returned (.bool true) ∧ Below w.heap.size w w' := by
  have q0 : (FloatKind.f64.format.order h 13890095209322119168 == some .gt || FloatKind.f64.format.order h 13890095209322119168 == some .eq) = true := h0
  have q1 : (FloatKind.f64.format.order h 4666723172467343360 == some .lt || FloatKind.f64.format.order h 4666723172467343360 == some .eq) = true := h1
  have q2 : (FloatKind.f64.format.order s 0 == some .gt || FloatKind.f64.format.order s 0 == some .eq) = true := h2
  have q3 : (FloatKind.f64.format.order s 4607182418800017408 == some .lt || FloatKind.f64.format.order s 4607182418800017408 == some .eq) = true := h3
  have q4 : (FloatKind.f64.format.order l 0 == some .gt || FloatKind.f64.format.order l 0 == some .eq) = true := h4
  have q5 : (FloatKind.f64.format.order l 4607182418800017408 == some .lt || FloatKind.f64.format.order l 4607182418800017408 == some .eq) = true := h5
  have m1 : ∀ w, (binOp .sub 22 (.float .f64 4607182418800017408) (.float .f64 l)).run Try.prog w = .ok (.float .f64 om) w := fun w => run_float_arith w .sub 22 .f64 _ _ _ k1
  have HM := fun w => zmin_any l om w
  generalize minF l om = mi at *
  have m2 : ∀ w, (binOp .mul 22 (.float .f64 s) (.float .f64 mi)).run Try.prog w = .ok (.float .f64 a) w := fun w => run_float_arith w .mul 22 .f64 _ _ _ k2
  have KM := Lib.hid HM
  clear HM k1 k2 h0 h1 h2 h3 h4 h5
  go_enter Try.func3, Try.ntmps3
  go_wp2_with fail
  refine (H1.out _).mono ?_
  rintro e w1 ⟨rfl, b1⟩
  have B1 := Lib.hid b1
  clear b1
  go_wp2_with fail
  refine (KM.out _).mono ?_
  rintro e w' ⟨rfl, rfl⟩
  go_wp2_with fail
  refine (Z0.out _).mono ?_
  rintro e w' ⟨rfl, rfl⟩
  go_wp2_with fail
  refine (N0.out _).mono ?_
  rintro e w' ⟨rfl, rfl⟩
  go_wp2_with fail
  refine (Z8.out _).mono ?_
  rintro e w' ⟨rfl, rfl⟩
  go_wp2_with fail
  refine (N8.out _).mono ?_
  rintro e w' ⟨rfl, rfl⟩
  go_wp2_with fail
  refine (Z4.out _).mono ?_
  rintro e w' ⟨rfl, rfl⟩
  go_wp2_with fail
  refine (N4.out _).mono ?_
  rintro e w' ⟨rfl, rfl⟩
  go_wp2
  go_ret
  exact ⟨rfl, B1.out⟩
theorem kLo : Finite 13890095209322119168 ∧ val 13890095209322119168 = -10000 := by constructor <;> decide +kernel
theorem kHi : Finite 4666723172467343360 ∧ val 4666723172467343360 = 10000 := by constructor <;> decide +kernel

set_option maxRecDepth 100000 in
set_option maxHeartbeats 4000000 in
/-- THE WALK -/
theorem walk (a0 : Nat) (a1 : Nat) (a2 : Nat) (w : World) (w0 : (Lit.float .f64 a0).wf = true) (w1 : (Lit.float .f64 a1).wf = true) (w2 : (Lit.float .f64 a2).wf = true) :
    Calls Try.prog 3 #[.float .f64 a0, .float .f64 a1, .float .f64 a2] w fun e w' => e = .returned (.bool true) ∧ Below w.heap.size w w' := by
  have hx0 : a0 < 2 ^ 64 := by simpa [Lit.wf] using w0
  have hx1 : a1 < 2 ^ 64 := by simpa [Lit.wf] using w1
  have hx2 : a2 < 2 ^ 64 := by simpa [Lit.wf] using w2
  cases h0 : geB a0 13890095209322119168 with
  | false => exact out0 a0 a1 a2 w h0
  | true =>
  cases h1 : leB a0 4666723172467343360 with
  | false => exact out1 a0 a1 a2 w h0 h1
  | true =>
  cases h2 : geB a1 0 with
  | false => exact out2 a0 a1 a2 w h0 h1 h2
  | true =>
  cases h3 : leB a1 4607182418800017408 with
  | false => exact out3 a0 a1 a2 w h0 h1 h2 h3
  | true =>
  cases h4 : geB a2 0 with
  | false => exact out4 a0 a1 a2 w h0 h1 h2 h3 h4
  | true =>
  cases h5 : leB a2 4607182418800017408 with
  | false => exact out5 a0 a1 a2 w h0 h1 h2 h3 h4 h5
  | true =>
  obtain ⟨fo, vo⟩ := cOne
  obtain ⟨fa, va⟩ := kLo
  obtain ⟨fb, vb⟩ := kHi
  obtain ⟨f0, r1, r2⟩ := finite_between hx0 fa fb h0 h1
  obtain ⟨f1, s1, s2⟩ := finite_between hx1 fin_zero fo h2 h3
  obtain ⟨f2, l1, l2⟩ := finite_between hx2 fin_zero fo h4 h5
  rw [val_zero] at s1 l1
  rw [vo] at s2 l2
  rw [va] at r1
  rw [vb] at r2
  obtain ⟨zr, zg, zb, A, H1, hE, c0, c8, c4⟩ := h2r_any a0 a1 a2 f0 f1 f2 r1 r2 s1 s2 l1 l2
  obtain ⟨A1, A2, -⟩ := ends6_le hE s1 s2 l1 l2
  obtain ⟨om, a, k1, k2, fA, p1, p2, p3, p4⟩ := amp6 a1 a2 A f1 f2 s1 s2 l1 l2 hE
  obtain ⟨fn8, vn8⟩ : Finite 4620693217682128896 ∧ val 4620693217682128896 = 8 := by constructor <;> decide +kernel
  obtain ⟨fn4, vn4⟩ := cFour
  obtain ⟨y0, Z0, g0, k, y, T, t0, t1, ⟨kf, t2, t3⟩, t4, t5, t6, t7, t8, t9, t10, t11, t12, t13⟩ := zchan_any 0 a0 a2 a 0 fin_zero val_zero (by grind) (by grind) f0 r1 r2 f2 l1 l2 fA p1 p2
  obtain ⟨n1, n2, n3, n4⟩ := chan_near (val a0) (val a2) A 2 0 zr y0 a (by grind) c0 A1 A2 l1 l2 p3 p4 k y T t0 t1 kf t2 t3 t4 t5 t6 t7 t8 t9 t10 t11 t12 t13
  clear t0 t1 t2 t3 t4 t5 t6 t7 t8 t9 t10 t11 t12 t13
  obtain ⟨y8, Z8, g8, k', y', T', t0, t1, ⟨kf', t2, t3⟩, t4, t5, t6, t7, t8, t9, t10, t11, t12, t13⟩ := zchan_any 4620693217682128896 a0 a2 a 8 fn8 vn8 (by grind) (by grind) f0 r1 r2 f2 l1 l2 fA p1 p2
  obtain ⟨n5, n6, n7, n8⟩ := chan_near (val a0) (val a2) A 0 8 zg y8 a (by grind) c8 A1 A2 l1 l2 p3 p4 k' y' T' t0 t1 kf' t2 t3 t4 t5 t6 t7 t8 t9 t10 t11 t12 t13
  clear t0 t1 t2 t3 t4 t5 t6 t7 t8 t9 t10 t11 t12 t13
  obtain ⟨y4, Z4, g4, k'', y'', T'', t0, t1, ⟨kf'', t2, t3⟩, t4, t5, t6, t7, t8, t9, t10, t11, t12, t13⟩ := zchan_any 4616189618054758400 a0 a2 a 4 fn4 vn4 (by grind) (by grind) f0 r1 r2 f2 l1 l2 fA p1 p2
  obtain ⟨n9, n10, n11, n12⟩ := chan_near (val a0) (val a2) A (-2) 4 zb y4 a (by grind) c4 A1 A2 l1 l2 p3 p4 k'' y'' T'' t0 t1 kf'' t2 t3 t4 t5 t6 t7 t8 t9 t10 t11 t12 t13
  exact main6 a0 a1 a2 zr zg zb om a y0 y8 y4 w h0 h1 h2 h3 h4 h5 (Lib.hid H1) k1 k2 (Lib.hid Z0) (Lib.hid Z8) (Lib.hid Z4) (Lib.hid (znear_any zr y0 c0.1 g0 n1 n2 n3 n4)) (Lib.hid (znear_any zg y8 c8.1 g8 n5 n6 n7 n8)) (Lib.hid (znear_any zb y4 c4.1 g4 n9 n10 n11 n12))

set_option maxRecDepth 100000 in
theorem lifted (os : Os) (started : os.Started) (H : Type) (enc : TypeId × Value → H) :
    ReturnsInHanded {} Try.checked os 3 .any (Rows.fnHslToRgbMatchesCssClosedFormSpec.pre6 enc Try.prog Try.f3 Rows.fnHslToRgbMatchesCssClosedFormRow.domain false) (Rows.fnHslToRgbMatchesCssClosedFormSpec.post enc Try.prog Try.f3 false true false false) := by
  refine returnsInHanded_of_change (C := Try.checked) own started (by kernel_rfl) Try.func3
    (ChangeSpec.witness6 (enc := enc) (C := Try.checked) false ⟨#[], #[.float .f64 0, .float .f64 0, .float .f64 0], []⟩ 8 (by kernel_rfl) (by kernel_rfl) (by kernel_rfl) (by kernel_rfl)) ?_
  intro W base args ds gs before hval0 hW hcnd _
  have hval : ∀ (j : Nat) t v, Try.f3.params[j]? = some t → args[j]? = some v → Value.okWide Try.prog W .any base t v := hval0
  have hW' := hW
  obtain ⟨p, q, hA0, hV, rfl, hfz, hnd⟩ := hW
  have hA : DataW.TrodAll enc Try.prog W 0 (fun _ => true) true Try.f3.params.toList args.toList ds p := hA0
  rw [Try.params3] at hA hval
  obtain ⟨v0, vs0, d0, ds0, p0, q0, hargs, rfl, rfl, h0, r0⟩ := trodAll_cons hA
  obtain ⟨v1, vs1, d1, ds1, p1, q1, rfl, rfl, rfl, h1, r1⟩ := trodAll_cons r0
  obtain ⟨v2, vs2, d2, ds2, p2, q2, rfl, rfl, rfl, h2, r2⟩ := trodAll_cons r1
  obtain ⟨rfl, rfl, rfl⟩ := trodAll_nil r2
  obtain rfl : args = #[v0, v1, v2] := by cases args; simp_all
  obtain ⟨rfl, rfl⟩ := trodVars_none hV
  obtain ⟨a0, rfl, rfl, rfl, w0⟩ := open_float Try.underlying22 (hval 0 22 v0 rfl rfl) h0
  obtain ⟨a1, rfl, rfl, rfl, w1⟩ := open_float Try.underlying22 (hval 1 22 v1 rfl rfl) h1
  obtain ⟨a2, rfl, rfl, rfl, w2⟩ := open_float Try.underlying22 (hval 2 22 v2 rfl rfl) h2
  clear hA0 hval0
  refine (walk a0 a1 a2 W w0 w1 w2).mono fun e W' ⟨he, bel⟩ => ?_
  subst he
  exact ⟨_, rfl, _, _, _, [], _, [], hW', trodAll_mk1 (shut_bool Try.underlying4 _), (trodAll_cons_mk (shut_float Try.underlying22 w0) (trodAll_cons_mk (shut_float Try.underlying22 w1) (trodAll_cons_mk (shut_float Try.underlying22 w2) trodAll_mk0))), rfl, bel.frame _, fun h => by cases h⟩

theorem over : Rows.fnHslToRgbMatchesCssClosedFormRow.holds Try.pinned (OpenSpec.ofChange Rows.fnHslToRgbMatchesCssClosedFormSpec) :=
  OpenClaim.holds_of_wide 3 Try.f3 rfl rfl rfl rfl rfl rfl rfl ⟨rfl, rfl, rfl, rfl, rfl⟩ rfl rfl rfl rfl rfl (by kernel_rfl) Try.func3 (by kernel_rfl)
    (of_decide_eq_true (by kernel_rfl)) (by unfold Func.isWrapper; first | (rw [if_pos (by decide +kernel)]; kernel_rfl) | (rw [if_neg (by decide +kernel)]; exact ⟨rfl, rfl⟩))
    (fun os started H enc _ => lifted os started H enc)

/-- THE STATEMENT -/
theorem proved : Rows.FnHslToRgbMatchesCssClosedFormSaid := over
#print axioms proved
end Go.Proofs.Ytafeeebgleecfaa.fnHslToRgbMatchesCssClosedForm
