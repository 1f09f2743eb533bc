/-
  math.cbrt, Cbrt and F64.Cbrt by their contracts.
-/
import Derived.Test.YtafeeebgleecfaaPd
import Derived.Test.YtafeeebgleecfaaFq
import Derived.Test.YtafeeebgleecfaaFLY
import Derived.Laws.Cover2
import Derived.Laws.FloatArith
namespace Go.Proofs.Ytafeeebgleecfaa.Mat
open Go.ChangeShapes Go.WideShapes Go.ChangeAt Go.RowKit
open FL
open Go.Proofs.Ytafeeebgleecfaa.Fx (run_bits run_unbits' IsNaN_fin IsInf0_fin)
set_option linter.unusedVariables false
theorem bits_chop (x : Nat) (hx : x < 2 ^ 64) : bits .and .u64 (x : Int) 18446744072635809792 = ((x - x % 2 ^ 30 : Nat) : Int) := by
  have h := bits_and_u64_nat x (2 ^ 64 - 1 - (2 ^ 30 - 1)) hx (by decide)
  rw [clear_low x 30 hx (by decide)] at h
  exact h
set_option maxRecDepth 100000 in
set_option maxHeartbeats 2000000 in
theorem cbrt_walk (x t t0 t2 d0 ch r0 r1 m s a d e q h t1 s2 r2 ww n dd r3 p : Nat) (fx : Finite x) (h0 : eqB x 0 = false) (h1 : ltB x 0 = false) (h2 : ltB x 4503599627370496 = false)
    (B1 : Hid (∀ w, (callFunc 85 #[.float .f64 x]).run Try.prog w = .ok (.value (.int .u64 x)) w)) (Q1 : Hid (IntKind.u64.wrap ((x : Int) / 3) = (d0 : Int))) (A1 : Hid (IntKind.u64.wrap ((d0 : Int) + 3071306043645493248) = (t0 : Int))) (U1 : Hid (∀ w, (callFunc 83 #[.int .u64 (t0 : Int)]).run Try.prog w = .ok (.value (.float .f64 t0)) w))
    (B2 : Hid (∀ w, (callFunc 85 #[.float .f64 t1]).run Try.prog w = .ok (.value (.int .u64 t1)) w)) (Q2 : Hid (bits .and .u64 (t1 : Int) 18446744072635809792 = (ch : Int))) (A2 : Hid (IntKind.u64.wrap ((ch : Int) + 1073741824) = (t2 : Int))) (U2 : Hid (∀ w, (callFunc 83 #[.int .u64 (t2 : Int)]).run Try.prog w = .ok (.value (.float .f64 t2)) w))
    (e0 : Ieee.double.mul t0 t0 = some r0) (e1 : Ieee.double.div r0 x = some r1) (e2 : Ieee.double.mul r1 t0 = some m) (e3 : Ieee.double.add 4603064841997850097 m = some s) (e4 : Ieee.double.add s 4609048195788499471 = some a) (e5 : Ieee.double.div 13827900089180538932 s = some d) (e6 : Ieee.double.add a d = some e) (e7 : Ieee.double.div 4609916747145206638 e = some q) (e8 : Ieee.double.add 4600105333671292343 q = some h) (e9 : Ieee.double.mul t0 h = some t1) (e10 : t1 < 2 ^ 63) (e11 : Ieee.double.mul t2 t2 = some s2) (e12 : Ieee.double.div x s2 = some r2) (e13 : Ieee.double.add t2 t2 = some ww) (e14 : Ieee.double.sub r2 t2 = some n) (e15 : Ieee.double.add ww r2 = some dd) (e16 : Ieee.double.div n dd = some r3) (e17 : Ieee.double.mul t2 r3 = some p) (e18 : Ieee.double.add t2 p = some t) (w : World) : Calls Try.prog 90 #[.float .f64 x] w fun e w' => e = .returned (.float .f64 t) ∧ w = w' := by
  have m0 : ∀ w, (binOp .mul 22 (.float .f64 t0) (.float .f64 t0)).run Try.prog w = .ok (.float .f64 r0) w := fun w => run_float_arith w .mul 22 .f64 _ _ _ e0
  have m1 : ∀ w, (binOp .quo 22 (.float .f64 r0) (.float .f64 x)).run Try.prog w = .ok (.float .f64 r1) w := fun w => run_float_arith w .quo 22 .f64 _ _ _ e1
  have m2 : ∀ w, (binOp .mul 22 (.float .f64 r1) (.float .f64 t0)).run Try.prog w = .ok (.float .f64 m) w := fun w => run_float_arith w .mul 22 .f64 _ _ _ e2
  have m3 : ∀ w, (binOp .add 22 (.float .f64 4603064841997850097) (.float .f64 m)).run Try.prog w = .ok (.float .f64 s) w := fun w => run_float_arith w .add 22 .f64 _ _ _ e3
  have m4 : ∀ w, (binOp .add 22 (.float .f64 s) (.float .f64 4609048195788499471)).run Try.prog w = .ok (.float .f64 a) w := fun w => run_float_arith w .add 22 .f64 _ _ _ e4
  have m5 : ∀ w, (binOp .quo 22 (.float .f64 13827900089180538932) (.float .f64 s)).run Try.prog w = .ok (.float .f64 d) w := fun w => run_float_arith w .quo 22 .f64 _ _ _ e5
  have m6 : ∀ w, (binOp .add 22 (.float .f64 a) (.float .f64 d)).run Try.prog w = .ok (.float .f64 e) w := fun w => run_float_arith w .add 22 .f64 _ _ _ e6
  have m7 : ∀ w, (binOp .quo 22 (.float .f64 4609916747145206638) (.float .f64 e)).run Try.prog w = .ok (.float .f64 q) w := fun w => run_float_arith w .quo 22 .f64 _ _ _ e7
  have m8 : ∀ w, (binOp .add 22 (.float .f64 4600105333671292343) (.float .f64 q)).run Try.prog w = .ok (.float .f64 h) w := fun w => run_float_arith w .add 22 .f64 _ _ _ e8
  have m9 : ∀ w, (binOp .mul 22 (.float .f64 t0) (.float .f64 h)).run Try.prog w = .ok (.float .f64 t1) w := fun w => run_float_arith w .mul 22 .f64 _ _ _ e9
  have m11 : ∀ w, (binOp .mul 22 (.float .f64 t2) (.float .f64 t2)).run Try.prog w = .ok (.float .f64 s2) w := fun w => run_float_arith w .mul 22 .f64 _ _ _ e11
  have m12 : ∀ w, (binOp .quo 22 (.float .f64 x) (.float .f64 s2)).run Try.prog w = .ok (.float .f64 r2) w := fun w => run_float_arith w .quo 22 .f64 _ _ _ e12
  have m13 : ∀ w, (binOp .add 22 (.float .f64 t2) (.float .f64 t2)).run Try.prog w = .ok (.float .f64 ww) w := fun w => run_float_arith w .add 22 .f64 _ _ _ e13
  have m14 : ∀ w, (binOp .sub 22 (.float .f64 r2) (.float .f64 t2)).run Try.prog w = .ok (.float .f64 n) w := fun w => run_float_arith w .sub 22 .f64 _ _ _ e14
  have m15 : ∀ w, (binOp .add 22 (.float .f64 ww) (.float .f64 r2)).run Try.prog w = .ok (.float .f64 dd) w := fun w => run_float_arith w .add 22 .f64 _ _ _ e15
  have m16 : ∀ w, (binOp .quo 22 (.float .f64 n) (.float .f64 dd)).run Try.prog w = .ok (.float .f64 r3) w := fun w => run_float_arith w .quo 22 .f64 _ _ _ e16
  have m17 : ∀ w, (binOp .mul 22 (.float .f64 t2) (.float .f64 r3)).run Try.prog w = .ok (.float .f64 p) w := fun w => run_float_arith w .mul 22 .f64 _ _ _ e17
  have m18 : ∀ w, (binOp .add 22 (.float .f64 t2) (.float .f64 p)).run Try.prog w = .ok (.float .f64 t) w := fun w => run_float_arith w .add 22 .f64 _ _ _ e18
  clear e0 e1 e2 e3 e4 e5 e6 e7 e8 e9 e10 e11 e12 e13 e14 e15 e16 e17 e18
  have q0 : (FloatKind.f64.format.order x 0 == some .eq) = false := h0
  have q1 : (FloatKind.f64.format.order x 0 == some .lt) = false := h1
  have q2 : (FloatKind.f64.format.order x 4503599627370496 == some .lt) = false := h2
  have B1 := B1.out
  have Q1 := Q1.out
  have A1 := A1.out
  have U1 := U1.out
  have B2 := B2.out
  have Q2 := Q2.out
  have A2 := A2.out
  have U2 := U2.out
  have FX := Lib.hid fx
  clear h0 h1 h2 fx
  go_enter Try.func90, Try.ntmps90
  go_wp2_with ((first | (go_at_call 99; refine (IsNaN_fin x _ (.inl FX.out)).mono ?_; rintro e w' ⟨rfl, rfl⟩) | (go_at_call 100; refine (IsInf0_fin x _ FX.out).mono ?_; rintro e w' ⟨rfl, rfl⟩)))
  go_ret
  exact ⟨rfl, rfl⟩
theorem cbrt_any (x : Nat) (fx : Finite x) (h1 : p2 (-9) ≤ val x) (h2 : val x < p2 40) :
    ∃ t, (∀ w, Calls Try.prog 90 #[.float .f64 x] w fun e w' => e = .returned (.float .f64 t) ∧ w = w') ∧ Finite t ∧ 1 / 60 ≤ val t ∧ val x * (1 - 1 / 100000000000) ≤ val t * val t * val t ∧ val t * val t * val t ≤ val x * (1 + 1 / 100000000000) := by
  obtain ⟨t, hw, ht⟩ := cbrt_ok x fx h1 h2
  refine ⟨t, fun w => ?_, ht⟩
  obtain ⟨r0, r1, m, s, a, d, e, q, h, t1, s2, r2, ww, n, dd, r3, p, e0, e1, e2, e3, e4, e5, e6, e7, e8, e9, e10, e11, e12, e13, e14, e15, e16, e17, e18⟩ := hw
  have hp := p2_pos (-9)
  have hx0 : 0 < val x := by grind
  have hx63 : x < 2 ^ 63 := by
    obtain ⟨k, f, hk, hf, k1, k2⟩ := bin_of x fx (-9) 40 (by decide) (by decide) h1 h2
    omega
  have fs : Finite 4503599627370496 := by decide +kernel
  have vs : val 4503599627370496 ≤ p2 (-9) := by decide +kernel
  have t0 : eqB x 0 = false := by rw [eqB_ok fx fin_zero, val_zero]; exact decide_eq_false (by grind)
  have t1' : ltB x 0 = false := by rw [ltB_ok fx fin_zero, val_zero]; exact decide_eq_false (by grind)
  have t2' : ltB x 4503599627370496 = false := by rw [ltB_ok fx fs]; exact decide_eq_false (by grind)
  clear h1 h2 hp hx0 vs ht
  have hlt : t1 < 2 ^ 63 := e10
  refine cbrt_walk x t (x / 3 + 3071306043645493248) (t1 - t1 % 2 ^ 30 + 2 ^ 30) (x / 3) (t1 - t1 % 2 ^ 30) r0 r1 m s a d e q h t1 s2 r2 ww n dd r3 p fx t0 t1' t2' (Lib.hid (run_bits x)) (Lib.hid ?_) (Lib.hid ?_) (Lib.hid (run_unbits' _)) (Lib.hid (run_bits t1)) (Lib.hid (bits_chop t1 (by omega))) (Lib.hid ?_) (Lib.hid (run_unbits' _)) e0 e1 e2 e3 e4 e5 e6 e7 e8 e9 e10 e11 e12 e13 e14 e15 e16 e17 e18 w
  · rw [IntKind.wrap_u64]; omega
  · rw [IntKind.wrap_u64]; omega
  · rw [IntKind.wrap_u64]; omega

theorem Cbrt_any (x r : Nat) (hc : ∀ w, Calls Try.prog 90 #[.float .f64 x] w fun e w' => e = .returned (.float .f64 r) ∧ w = w') (w : World) : Calls Try.prog 80 #[.float .f64 x] w fun e w' => e = .returned (.float .f64 r) ∧ Below w.heap.size w w' := by
  have HC := Lib.hid hc
  clear hc
  go_enter Try.func80, Try.ntmps80
  go_wp2_with (go_at_call 90; refine (HC.out _).mono ?_; rintro e w' ⟨rfl, rfl⟩)
  go_ret
  exact ⟨rfl, Below.refl _ _⟩
attribute [local go_sem] run_store_float build_f64
set_option maxRecDepth 100000 in
set_option maxHeartbeats 800000 in
theorem FCbrt_any (x0 r : Nat) (hc : ∀ w, Calls Try.prog 80 #[.float .f64 x0] w fun e w' => e = .returned (.float .f64 r) ∧ Below w.heap.size w w') (w : World) :
    Calls Try.prog 67 #[.agg #[.float .f64 x0]] w fun e w' => e = .returned (.agg #[.float .f64 r]) ∧ Below w.heap.size w w' := by
  have HC := Lib.hid hc
  clear hc
  go_enter Try.func67, Try.ntmps67
  go_wp2_with fail
  refine (HC.out _).mono ?_
  rintro e w0 ⟨rfl, hb⟩
  have hb0 := (((Below.refl w.heap.size w).alloc (by simp; try omega) _).alloc (by simp; try omega) _).trans (hb.mono (by simp; try omega))
  have c0 := hb.cell (p := ⟨w.heap.size + 1, 0, none⟩) (by simp; try omega)
  have f0 := hb.frozen (p := ⟨w.heap.size + 1, 0, none⟩) (by simp; try omega)
  have hz := hb.size
  simp at c0 f0 hz
  have HB := Lib.hid hb0
  clear hb hb0
  go_wp2_with fail
  refine (NewF64_any _ _).mono ?_
  rintro e w1 ⟨rfl, hb⟩
  have c1 := (hb.cell (p := ⟨w.heap.size + 1, 0, none⟩) (by show w.heap.size + 1 < _; omega)).trans c0
  have f1 := (hb.frozen (p := ⟨w.heap.size + 1, 0, none⟩) (by show w.heap.size + 1 < _; omega)).trans f0
  have hz1 := hb.size
  have hb0 := HB.out.trans (hb.mono (by omega))
  clear c0 f0 hb HB
  go_wp2
  refine bodyPost_ret (v := .agg #[.float .f64 r]) (by simp [results, Try.results67, go_sem, c1]) rfl ⟨rfl, ?_⟩
  exact hb0.setCell (by simp; try omega) _
/-- F64's cube root -/
theorem fcbrt_any (x : Nat) (fx : Finite x) (h1 : p2 (-9) ≤ val x) (h2 : val x < p2 40) :
    ∃ t, (∀ w, Calls Try.prog 67 #[.agg #[.float .f64 x]] w fun e w' => e = .returned (.agg #[.float .f64 t]) ∧ Below w.heap.size w w') ∧ Finite t ∧ 1 / 60 ≤ val t ∧ val x * (1 - 1 / 100000000000) ≤ val t * val t * val t ∧ val t * val t * val t ≤ val x * (1 + 1 / 100000000000) := by
  obtain ⟨t, hc, ht⟩ := cbrt_any x fx h1 h2
  exact ⟨t, fun w => FCbrt_any x t (fun w => Cbrt_any x t hc w) w, ht⟩
end Go.Proofs.Ytafeeebgleecfaa.Mat
