/-
  math.xatan, satan, atan and Atan by their contracts.
-/
import Derived.Test.YtafeeebgleecfaaPd
import Derived.Test.YtafeeebgleecfaaFLU
import Derived.Test.YtafeeebgleecfaaFLT
import Derived.Laws.Cover2
import Derived.Laws.FloatArith
import Derived.Laws.Twins
namespace Go.Proofs.Ytafeeebgleecfaa.Mat
open Go.ChangeShapes Go.WideShapes Go.ChangeAt Go.RowKit
open FL
set_option linter.unusedVariables false
set_option maxRecDepth 100000 in
set_option maxHeartbeats 2000000 in
theorem xat_walk (x z0 pa1 pa2 pa3 pa4 pa5 pa6 pa7 pa8 nu q1 q2 q3 q4 q5 q6 q7 q8 q9 wq p z : Nat) (e0 : Ieee.double.mul x x = some z0) (e1 : Ieee.double.mul 13829429103926125972 z0 = some pa1) (e2 : Ieee.double.add pa1 13848613196940411002 = some pa2) (e3 : Ieee.double.mul pa2 z0 = some pa3) (e4 : Ieee.double.add pa3 13858350711815275123 = some pa4) (e5 : Ieee.double.mul pa4 z0 = some pa5) (e6 : Ieee.double.add pa5 13861719834326579749 = some pa6) (e7 : Ieee.double.mul pa6 z0 = some pa7) (e8 : Ieee.double.add pa7 13857635882265799822 = some pa8) (e9 : Ieee.double.mul z0 pa8 = some nu) (e10 : Ieee.double.add z0 4627690253511319612 = some q1) (e11 : Ieee.double.mul q1 z0 = some q2) (e12 : Ieee.double.add q2 4640010388282866213 = some q3) (e13 : Ieee.double.mul q3 z0 = some q4) (e14 : Ieee.double.add q4 4646322940342877755 = some q5) (e15 : Ieee.double.mul q5 z0 = some q6) (e16 : Ieee.double.add q6 4647246694406179306 = some q7) (e17 : Ieee.double.mul q7 z0 = some q8) (e18 : Ieee.double.add q8 4641049159275471596 = some q9) (e19 : Ieee.double.div nu q9 = some wq) (e20 : Ieee.double.mul x wq = some p) (e21 : Ieee.double.add p x = some z) (w : World) : Calls Try.prog 116 #[.float .f64 x] w fun e w' => e = .returned (.float .f64 z) ∧ w = w' := by
  have m0 : ∀ w, (binOp .mul 22 (.float .f64 x) (.float .f64 x)).run Try.prog w = .ok (.float .f64 z0) w := fun w => run_float_arith w .mul 22 .f64 _ _ _ e0
  have m1 : ∀ w, (binOp .mul 22 (.float .f64 13829429103926125972) (.float .f64 z0)).run Try.prog w = .ok (.float .f64 pa1) w := fun w => run_float_arith w .mul 22 .f64 _ _ _ e1
  have m2 : ∀ w, (binOp .add 22 (.float .f64 pa1) (.float .f64 13848613196940411002)).run Try.prog w = .ok (.float .f64 pa2) w := fun w => run_float_arith w .add 22 .f64 _ _ _ e2
  have m3 : ∀ w, (binOp .mul 22 (.float .f64 pa2) (.float .f64 z0)).run Try.prog w = .ok (.float .f64 pa3) w := fun w => run_float_arith w .mul 22 .f64 _ _ _ e3
  have m4 : ∀ w, (binOp .add 22 (.float .f64 pa3) (.float .f64 13858350711815275123)).run Try.prog w = .ok (.float .f64 pa4) w := fun w => run_float_arith w .add 22 .f64 _ _ _ e4
  have m5 : ∀ w, (binOp .mul 22 (.float .f64 pa4) (.float .f64 z0)).run Try.prog w = .ok (.float .f64 pa5) w := fun w => run_float_arith w .mul 22 .f64 _ _ _ e5
  have m6 : ∀ w, (binOp .add 22 (.float .f64 pa5) (.float .f64 13861719834326579749)).run Try.prog w = .ok (.float .f64 pa6) w := fun w => run_float_arith w .add 22 .f64 _ _ _ e6
  have m7 : ∀ w, (binOp .mul 22 (.float .f64 pa6) (.float .f64 z0)).run Try.prog w = .ok (.float .f64 pa7) w := fun w => run_float_arith w .mul 22 .f64 _ _ _ e7
  have m8 : ∀ w, (binOp .add 22 (.float .f64 pa7) (.float .f64 13857635882265799822)).run Try.prog w = .ok (.float .f64 pa8) w := fun w => run_float_arith w .add 22 .f64 _ _ _ e8
  have m9 : ∀ w, (binOp .mul 22 (.float .f64 z0) (.float .f64 pa8)).run Try.prog w = .ok (.float .f64 nu) w := fun w => run_float_arith w .mul 22 .f64 _ _ _ e9
  have m10 : ∀ w, (binOp .add 22 (.float .f64 z0) (.float .f64 4627690253511319612)).run Try.prog w = .ok (.float .f64 q1) w := fun w => run_float_arith w .add 22 .f64 _ _ _ e10
  have m11 : ∀ w, (binOp .mul 22 (.float .f64 q1) (.float .f64 z0)).run Try.prog w = .ok (.float .f64 q2) w := fun w => run_float_arith w .mul 22 .f64 _ _ _ e11
  have m12 : ∀ w, (binOp .add 22 (.float .f64 q2) (.float .f64 4640010388282866213)).run Try.prog w = .ok (.float .f64 q3) w := fun w => run_float_arith w .add 22 .f64 _ _ _ e12
  have m13 : ∀ w, (binOp .mul 22 (.float .f64 q3) (.float .f64 z0)).run Try.prog w = .ok (.float .f64 q4) w := fun w => run_float_arith w .mul 22 .f64 _ _ _ e13
  have m14 : ∀ w, (binOp .add 22 (.float .f64 q4) (.float .f64 4646322940342877755)).run Try.prog w = .ok (.float .f64 q5) w := fun w => run_float_arith w .add 22 .f64 _ _ _ e14
  have m15 : ∀ w, (binOp .mul 22 (.float .f64 q5) (.float .f64 z0)).run Try.prog w = .ok (.float .f64 q6) w := fun w => run_float_arith w .mul 22 .f64 _ _ _ e15
  have m16 : ∀ w, (binOp .add 22 (.float .f64 q6) (.float .f64 4647246694406179306)).run Try.prog w = .ok (.float .f64 q7) w := fun w => run_float_arith w .add 22 .f64 _ _ _ e16
  have m17 : ∀ w, (binOp .mul 22 (.float .f64 q7) (.float .f64 z0)).run Try.prog w = .ok (.float .f64 q8) w := fun w => run_float_arith w .mul 22 .f64 _ _ _ e17
  have m18 : ∀ w, (binOp .add 22 (.float .f64 q8) (.float .f64 4641049159275471596)).run Try.prog w = .ok (.float .f64 q9) w := fun w => run_float_arith w .add 22 .f64 _ _ _ e18
  have m19 : ∀ w, (binOp .quo 22 (.float .f64 nu) (.float .f64 q9)).run Try.prog w = .ok (.float .f64 wq) w := fun w => run_float_arith w .quo 22 .f64 _ _ _ e19
  have m20 : ∀ w, (binOp .mul 22 (.float .f64 x) (.float .f64 wq)).run Try.prog w = .ok (.float .f64 p) w := fun w => run_float_arith w .mul 22 .f64 _ _ _ e20
  have m21 : ∀ w, (binOp .add 22 (.float .f64 p) (.float .f64 x)).run Try.prog w = .ok (.float .f64 z) w := fun w => run_float_arith w .add 22 .f64 _ _ _ e21
  clear e0 e1 e2 e3 e4 e5 e6 e7 e8 e9 e10 e11 e12 e13 e14 e15 e16 e17 e18 e19 e20 e21
  go_enter Try.func116, Try.ntmps116
  go_wp2
  go_ret
  exact ⟨rfl, rfl⟩
theorem xat_any (x : Nat) (fx : Finite x) (h1 : -67 / 100 ≤ val x) (h2 : val x ≤ 67 / 100) : ∃ z, (∀ w, Calls Try.prog 116 #[.float .f64 x] w fun e w' => e = .returned (.float .f64 z) ∧ w = w') ∧ Finite z ∧ -7 / 10 ≤ val z ∧ val z ≤ 7 / 10 ∧ (0 ≤ val x → val z ≤ val x + 1 / 1000000000) ∧ (val x ≤ 0 → val x - 1 / 1000000000 ≤ val z) ∧ (p2 (-900) ≤ val x → 0 < val z) := by
  obtain ⟨z0, pa1, pa2, pa3, pa4, pa5, pa6, pa7, pa8, nu, q1, q2, q3, q4, q5, q6, q7, q8, q9, wq, p, z, e0, e1, e2, e3, e4, e5, e6, e7, e8, e9, e10, e11, e12, e13, e14, e15, e16, e17, e18, e19, e20, e21, hz⟩ := xatan58 x fx h1 h2
  exact ⟨z, fun w => xat_walk x z0 pa1 pa2 pa3 pa4 pa5 pa6 pa7 pa8 nu q1 q2 q3 q4 q5 q6 q7 q8 q9 wq p z e0 e1 e2 e3 e4 e5 e6 e7 e8 e9 e10 e11 e12 e13 e14 e15 e16 e17 e18 e19 e20 e21 w, hz⟩
theorem k66 : Finite 4604119971053405471 ∧ 65 / 100 ≤ val 4604119971053405471 ∧ val 4604119971053405471 ≤ 67 / 100 := by refine ⟨?_, ?_, ?_⟩ <;> decide +kernel
theorem k24 : Finite 4612618744449965542 ∧ 2414 / 1000 ≤ val 4612618744449965542 ∧ val 4612618744449965542 ≤ 2415 / 1000 := by refine ⟨?_, ?_, ?_⟩ <;> decide +kernel
theorem kHpi : Finite 4609753056924675352 ∧ 157079632679489 / 100000000000000 ≤ val 4609753056924675352 ∧ val 4609753056924675352 ≤ 157079632679490 / 100000000000000 := by refine ⟨?_, ?_, ?_⟩ <;> decide +kernel
theorem kMb : Finite 4364452196894661639 ∧ 0 ≤ val 4364452196894661639 ∧ val 4364452196894661639 ≤ 1 / 10000000000000000 := by refine ⟨?_, ?_, ?_⟩ <;> decide +kernel
theorem kQpi : Finite 4605249457297304856 ∧ 7853 / 10000 ≤ val 4605249457297304856 ∧ val 4605249457297304856 ≤ 7854 / 10000 := by refine ⟨?_, ?_, ?_⟩ <;> decide +kernel
theorem kHmb : Finite 4359948597267291143 ∧ 0 ≤ val 4359948597267291143 ∧ val 4359948597267291143 ≤ 1 / 10000000000000000 := by refine ⟨?_, ?_, ?_⟩ <;> decide +kernel
/-- what is known of an angle in the first quadrant -/
def Quad (y : Nat) : Prop := Finite y ∧ 0 < val y ∧ val y ≤ 157079632679491 / 100000000000000
set_option maxHeartbeats 2000000 in
theorem sat_any (x : Nat) (fx : Finite x) (h1 : p2 (-800) ≤ val x) (h2 : val x ≤ p2 800) : ∃ y, (∀ w, Calls Try.prog 115 #[.float .f64 x] w fun e w' => e = .returned (.float .f64 y) ∧ w = w') ∧ Quad y := by
  obtain ⟨b22, b23⟩ := big1022
  have hu : u = 1 / 9007199254740992 := rfl
  have he := eta_nano
  have he0 := eta_pos
  have hp8 := p2_pos (-800)
  have h89 : p2 (-900) ≤ p2 (-800) := p2_le (by decide)
  obtain ⟨f6, l6, u6⟩ := k66
  obtain ⟨f2, l2, u2⟩ := k24
  obtain ⟨fo, vo⟩ := cOne
  have t6 := leB_ok fx f6
  have t2 := gtB_ok fx f2
  by_cases c1 : val x ≤ val 4604119971053405471
  · obtain ⟨z, hz, fz, z1, z2, z3, z4, z5⟩ := xat_any x fx (by grind) (by grind)
    refine ⟨z, fun w => ?_, fz, z5 (by grind), by grind⟩
    rw [decide_eq_true c1] at t6
    have q1 : (FloatKind.f64.format.order x 4604119971053405471 == some .lt || FloatKind.f64.format.order x 4604119971053405471 == some .eq) = true := t6
    have HZ := Lib.hid hz
    clear t6 t2 c1 hz fz z1 z2 z3 z4 z5 h1 h2 b22 b23 hu he he0 hp8 h89 f6 l6 u6 f2 l2 u2 fo vo fx
    go_enter Try.func115, Try.ntmps115
    go_wp2_with (go_at_call 116; refine (HZ.out _).mono ?_; rintro e w' ⟨rfl, rfl⟩)
    go_ret
    exact ⟨rfl, rfl⟩
  · rw [decide_eq_false c1] at t6
    have q1 : (FloatKind.f64.format.order x 4604119971053405471 == some .lt || FloatKind.f64.format.order x 4604119971053405471 == some .eq) = false := t6
    by_cases c2 : val 4612618744449965542 < val x
    · rw [decide_eq_true c2] at t2
      have q2 : (FloatKind.f64.format.order x 4612618744449965542 == some .gt) = true := t2
      have hx0 : 0 < val x := by grind
      obtain ⟨v, hv⟩ : ∃ v, v = 1 / val x := ⟨_, rfl⟩
      have hvx : v * val x = 1 := by rw [hv]; exact Rat.div_mul_cancel (by grind)
      have v0 : 0 < v := by
        rcases (by grind : 0 < v ∨ v ≤ 0) with h | h
        · exact h
        · exfalso
          have := Rat.mul_le_mul_of_nonneg_right h (Rat.le_of_lt hx0); grind
      have v1 : v ≤ 415 / 1000 := mul_le_cancel hx0 (by rw [hvx]; grind)
      have v2 : p2 (-800) ≤ v := mul_le_cancel hx0 (by
        rw [hvx]
        have q := Rat.mul_le_mul_of_nonneg_left h2 (Rat.le_of_lt hp8)
        rw [← p2_add] at q
        have e0 : p2 (-800 + 800) = 1 := by rw [show (-800 + 800 : Int) = 0 from rfl]; exact p2_zero
        rw [e0] at q; exact q)
      obtain ⟨iv, ei, fi, ri⟩ := div_ok 4607182418800017408 x fo fx (by grind) v (by rw [vo]; exact hvx) (by grind) (by grind)
      have si := ri v (by grind) Rat.le_refl
      rw [hu] at si
      clear ri
      have hee : eta ≤ p2 (-800) / 1000 := by
        have g1 : p2 (-800) = p2 (-1074) * p2 274 := by rw [← p2_add]; rfl
        have g2 : p2 20 ≤ p2 274 := p2_le (by decide)
        have g3 : p2 20 = 1048576 := by decide +kernel
        have g4 := Rat.mul_le_mul_of_nonneg_left g2 (Rat.le_of_lt (p2_pos (-1074)))
        have g5 := eta_half
        rw [g3] at g4
        rw [g1]
        clear si v0 v1 v2 hvx
        grind
      have h9 : p2 (-900) * 2 ≤ p2 (-800) := by
        have g1 : p2 (-800) = p2 (-900) * p2 100 := by rw [← p2_add]; rfl
        have g2 : p2 1 ≤ p2 100 := p2_le (by decide)
        rw [p2_one] at g2
        have g4 := Rat.mul_le_mul_of_nonneg_left g2 (Rat.le_of_lt (p2_pos (-900)))
        rw [g1]; exact g4
      obtain ⟨z, hz, fz, z1, z2, z3, z4, z5⟩ := xat_any iv fi (by grind) (by grind)
      have z0 := z5 (by grind)
      have z6 := z3 (by grind)
      obtain ⟨fH, lH, uH⟩ := kHpi
      obtain ⟨fM, lM, uM⟩ := kMb
      obtain ⟨y1, e1, g1, r1⟩ := sub_ok 4609753056924675352 z fH fz (by grind) (by grind)
      have s1 := r1 2 (by grind) (by grind)
      rw [hu] at s1
      clear r1
      obtain ⟨y, e2, g2, r2⟩ := add_ok y1 4364452196894661639 g1 fM (by grind) (by grind)
      have s2 := r2 2 (by grind) (by grind)
      rw [hu] at s2
      clear r2
      refine ⟨y, fun w => ?_, g2, by grind, by grind⟩
      have m1 : ∀ w, (binOp .quo 22 (.float .f64 4607182418800017408) (.float .f64 x)).run Try.prog w = .ok (.float .f64 iv) w := fun w => run_float_arith w .quo 22 .f64 _ _ _ ei
      have m2 : ∀ w, (binOp .sub 22 (.float .f64 4609753056924675352) (.float .f64 z)).run Try.prog w = .ok (.float .f64 y1) w := fun w => run_float_arith w .sub 22 .f64 _ _ _ e1
      have m3 : ∀ w, (binOp .add 22 (.float .f64 y1) (.float .f64 4364452196894661639)).run Try.prog w = .ok (.float .f64 y) w := fun w => run_float_arith w .add 22 .f64 _ _ _ e2
      have HZ := Lib.hid hz
      clear t6 t2 c1 c2 hz fz z0 z1 z2 z3 z4 z5 z6 h1 h2 b22 b23 hu he he0 hp8 h89 f6 l6 u6 f2 l2 u2 fo vo fx hx0 hv hvx v0 v1 v2 ei fi si hee h9 fH lH uH fM lM uM e1 g1 s1 e2 g2 s2
      go_enter Try.func115, Try.ntmps115
      go_wp2_with (go_at_call 116; refine (HZ.out _).mono ?_; rintro e w' ⟨rfl, rfl⟩)
      go_ret
      exact ⟨rfl, rfl⟩
    · rw [decide_eq_false c2] at t2
      have q2 : (FloatKind.f64.format.order x 4612618744449965542 == some .gt) = false := t2
      obtain ⟨a, e1, g1, r1⟩ := sub_ok x 4607182418800017408 fx fo (by rw [vo]; grind) (by rw [vo]; grind)
      rw [vo] at r1
      have s1 := r1 2 (by grind) (by grind)
      rw [hu] at s1
      clear r1
      obtain ⟨b, e2, g2, r2⟩ := add_ok x 4607182418800017408 fx fo (by rw [vo]; grind) (by rw [vo]; grind)
      rw [vo] at r2
      have s2 := r2 4 (by grind) (by grind)
      rw [hu] at s2
      clear r2
      have hb0 : 0 < val b := by grind
      obtain ⟨v, hv⟩ : ∃ v, v = val a / val b := ⟨_, rfl⟩
      have hvb : v * val b = val a := by rw [hv]; exact Rat.div_mul_cancel (by grind)
      have v1 : v ≤ 42 / 100 := mul_le_cancel hb0 (by rw [hvb]; grind)
      have v2 : -22 / 100 ≤ v := mul_le_cancel hb0 (by rw [hvb]; grind)
      obtain ⟨q, e3, g3, r3⟩ := div_ok a b g1 g2 (by grind) v hvb (by grind) (by grind)
      have s3 := r3 1 (by grind) (by grind)
      rw [hu] at s3
      clear r3
      obtain ⟨z, hz, fz, z1, z2, z3, z4, z5⟩ := xat_any q g3 (by grind) (by grind)
      obtain ⟨fQ, lQ, uQ⟩ := kQpi
      obtain ⟨fM, lM, uM⟩ := kHmb
      obtain ⟨y1, e4, g4, r4⟩ := add_ok 4605249457297304856 z fQ fz (by grind) (by grind)
      have s4 := r4 2 (by grind) (by grind)
      rw [hu] at s4
      clear r4
      obtain ⟨y, e5, g5, r5⟩ := add_ok y1 4359948597267291143 g4 fM (by grind) (by grind)
      have s5 := r5 2 (by grind) (by grind)
      rw [hu] at s5
      clear r5
      refine ⟨y, fun w => ?_, g5, by grind, by grind⟩
      have m1 : ∀ w, (binOp .sub 22 (.float .f64 x) (.float .f64 4607182418800017408)).run Try.prog w = .ok (.float .f64 a) w := fun w => run_float_arith w .sub 22 .f64 _ _ _ e1
      have m2 : ∀ w, (binOp .add 22 (.float .f64 x) (.float .f64 4607182418800017408)).run Try.prog w = .ok (.float .f64 b) w := fun w => run_float_arith w .add 22 .f64 _ _ _ e2
      have m3 : ∀ w, (binOp .quo 22 (.float .f64 a) (.float .f64 b)).run Try.prog w = .ok (.float .f64 q) w := fun w => run_float_arith w .quo 22 .f64 _ _ _ e3
      have m4 : ∀ w, (binOp .add 22 (.float .f64 4605249457297304856) (.float .f64 z)).run Try.prog w = .ok (.float .f64 y1) w := fun w => run_float_arith w .add 22 .f64 _ _ _ e4
      have m5 : ∀ w, (binOp .add 22 (.float .f64 y1) (.float .f64 4359948597267291143)).run Try.prog w = .ok (.float .f64 y) w := fun w => run_float_arith w .add 22 .f64 _ _ _ e5
      have HZ := Lib.hid hz
      clear t6 t2 c1 c2 hz fz z1 z2 z3 z4 z5 h1 h2 b22 b23 hu he he0 hp8 h89 f6 l6 u6 f2 l2 u2 fo vo fx e1 g1 s1 e2 g2 s2 hb0 hv hvb v1 v2 e3 g3 s3 fQ lQ uQ fM lM uM e4 g4 s4 e5 g5 s5
      go_enter Try.func115, Try.ntmps115
      go_wp2_with (go_at_call 116; refine (HZ.out _).mono ?_; rintro e w' ⟨rfl, rfl⟩)
      go_ret
      exact ⟨rfl, rfl⟩
end Go.Proofs.Ytafeeebgleecfaa.Mat
