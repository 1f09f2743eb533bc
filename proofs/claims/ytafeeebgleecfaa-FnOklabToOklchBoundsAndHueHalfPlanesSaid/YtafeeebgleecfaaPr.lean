/-
  oklab_to_oklch: the angle by the signs of its arguments, and so the hue.
-/
import Derived.Test.YtafeeebgleecfaaPq
namespace Go.Proofs.Ytafeeebgleecfaa.Mat
open Go.ChangeShapes Go.WideShapes Go.ChangeAt Go.RowKit
open FL
open Go.Proofs.Ytafeeebgleecfaa.Fx (negB)
set_option linter.unusedVariables false
/-- where the angle lies -/
def Ang (a b an : Rat) : Prop :=
  (0 < b → 0 < a → 0 < an ∧ an ≤ 157079632679491 / 100000000000000) ∧ (0 < b → a < 0 → 157079632679486 / 100000000000000 ≤ an ∧ an ≤ 314159265358982 / 100000000000000) ∧ (0 < b → a = 0 → 157079632679486 / 100000000000000 ≤ an ∧ an ≤ 157079632679491 / 100000000000000) ∧
  (b < 0 → 0 < a → -(157079632679491 / 100000000000000) ≤ an ∧ an < 0) ∧ (b < 0 → a < 0 → -(314159265358982 / 100000000000000) ≤ an ∧ an ≤ -(157079632679486 / 100000000000000)) ∧ (b < 0 → a = 0 → -(157079632679491 / 100000000000000) ≤ an ∧ an ≤ -(157079632679486 / 100000000000000)) ∧
  (b = 0 → 0 < a → an = 0) ∧ (b = 0 → a < 0 → (314159265358978 / 100000000000000 ≤ an ∧ an ≤ 314159265358982 / 100000000000000) ∨ (-(314159265358982 / 100000000000000) ≤ an ∧ an ≤ -(314159265358978 / 100000000000000)))
theorem ang_any (a b : Nat) (ha : Zone3 a) (hb : Zone3 b) : ∃ an, (∀ w, Calls Try.prog 105 #[.float .f64 b, .float .f64 a] w fun e w' => e = .returned (.float .f64 an) ∧ w = w') ∧ Finite an ∧ -32 / 10 ≤ val an ∧ val an ≤ 32 / 10 ∧ Ang (val a) (val b) (val an) := by
  obtain ⟨fP, lP, uP⟩ := kPi
  obtain ⟨fH, lH, uH⟩ := kHpi
  have fa := ha.1
  have fb := hb.1
  have ea := eqB_ok fa fin_zero
  have eb := eqB_ok fb fin_zero
  have la := ltB_ok fa fin_zero
  have ga := geB_ok fa fin_zero
  rw [val_zero] at ea eb la ga
  by_cases hb0 : val b = 0
  · rw [decide_eq_true hb0] at eb
    by_cases hge : 0 ≤ val a
    · rw [decide_eq_true hge] at ga
      cases hs : negB a with
      | false =>
        have hv : Finite (b - b % 2 ^ 63) ∧ val (b - b % 2 ^ 63) = 0 := by
          have e := word_or b 0 fb.1 (by decide)
          rw [Nat.add_zero] at e
          rw [e]; exact word_zero _
        refine ⟨_, fun w => at2_y0p b a fb fa eb ga (Lib.hid hs) w, hv.1, by rw [hv.2]; decide +kernel, by rw [hv.2]; decide +kernel, ?_⟩
        rw [hv.2]
        refine ⟨fun h1 h2 => ?_, fun h1 h2 => ?_, fun h1 h2 => ?_, fun h1 h2 => ?_, fun h1 h2 => ?_, fun h1 h2 => ?_, fun h1 h2 => ?_, fun h1 h2 => ?_⟩ <;> first | (exfalso; grind) | exact ⟨by grind, by grind⟩ | exact .inl ⟨by grind, by grind⟩ | exact .inr ⟨by grind, by grind⟩ | grind
      | true =>
        obtain ⟨fr, vr⟩ := copysign_val 4614256656552045848 b fP (by decide) fb
        have hab : ¬ 0 < val a := by
          intro h
          have h2 : sg (a / 2 ^ 63 % 2 == 1) = 1 := by rw [sign_of a fa (by grind), if_pos h]
          have h3 : 2 ^ 63 ≤ a := by unfold negB at hs; exact of_decide_eq_true hs
          have h4 : a / 2 ^ 63 % 2 = 1 := by have := fa.1; omega
          rw [h4] at h2
          exact absurd h2 (by decide +kernel)
        refine ⟨_, fun w => at2_y0m b a fb fa eb ga (Lib.hid hs) w, fr, ?_, ?_, ?_⟩
        · rw [vr]; rcases sg_cases (b / 2 ^ 63 % 2 == 1) with e | e <;> rw [e] <;> grind
        · rw [vr]; rcases sg_cases (b / 2 ^ 63 % 2 == 1) with e | e <;> rw [e] <;> grind
        · rw [vr]; rcases sg_cases (b / 2 ^ 63 % 2 == 1) with e | e <;> rw [e] <;> (refine ⟨fun h1 h2 => ?_, fun h1 h2 => ?_, fun h1 h2 => ?_, fun h1 h2 => ?_, fun h1 h2 => ?_, fun h1 h2 => ?_, fun h1 h2 => ?_, fun h1 h2 => ?_⟩ <;> first | (exfalso; grind) | exact ⟨by grind, by grind⟩ | exact .inl ⟨by grind, by grind⟩ | exact .inr ⟨by grind, by grind⟩ | grind)
    · rw [decide_eq_false hge] at ga
      obtain ⟨fr, vr⟩ := copysign_val 4614256656552045848 b fP (by decide) fb
      refine ⟨_, fun w => at2_y0n b a fb fa eb ga w, fr, ?_, ?_, ?_⟩
      · rw [vr]; rcases sg_cases (b / 2 ^ 63 % 2 == 1) with e | e <;> rw [e] <;> grind
      · rw [vr]; rcases sg_cases (b / 2 ^ 63 % 2 == 1) with e | e <;> rw [e] <;> grind
      · rw [vr]; rcases sg_cases (b / 2 ^ 63 % 2 == 1) with e | e <;> rw [e] <;> (refine ⟨fun h1 h2 => ?_, fun h1 h2 => ?_, fun h1 h2 => ?_, fun h1 h2 => ?_, fun h1 h2 => ?_, fun h1 h2 => ?_, fun h1 h2 => ?_, fun h1 h2 => ?_⟩ <;> first | (exfalso; grind) | exact ⟨by grind, by grind⟩ | exact .inl ⟨by grind, by grind⟩ | exact .inr ⟨by grind, by grind⟩ | grind)
  · rw [decide_eq_false hb0] at eb
    by_cases ha0 : val a = 0
    · rw [decide_eq_true ha0] at ea
      obtain ⟨fr, vr⟩ := copysign_val 4609753056924675352 b fH (by decide) fb
      rw [sign_of b fb hb0] at vr
      refine ⟨_, fun w => at2_x0 b a fb fa eb ea w, fr, ?_, ?_, ?_⟩
      · rw [vr]; split <;> grind
      · rw [vr]; split <;> grind
      · rw [vr]; split <;> (refine ⟨fun h1 h2 => ?_, fun h1 h2 => ?_, fun h1 h2 => ?_, fun h1 h2 => ?_, fun h1 h2 => ?_, fun h1 h2 => ?_, fun h1 h2 => ?_, fun h1 h2 => ?_⟩ <;> first | (exfalso; grind) | exact ⟨by grind, by grind⟩ | exact .inl ⟨by grind, by grind⟩ | exact .inr ⟨by grind, by grind⟩ | grind)
    · rw [decide_eq_false ha0] at ea
      obtain ⟨b1, b2⟩ := hb.2.resolve_left hb0
      obtain ⟨a1, a2⟩ := ha.2.resolve_left ha0
      obtain ⟨q, e1, fq, q1, q2, q3, q4⟩ := quo58 b a fb fa b1 b2 a1 a2
      obtain ⟨y, r, hr, hq, fr, hs⟩ := Atan_quad q fq q1 q2
      obtain ⟨fy, y1, y2⟩ := hq
      obtain ⟨b22, b23⟩ := big1022
      have hu : u = 1 / 9007199254740992 := rfl
      have lr := leB_ok fr fin_zero
      rw [val_zero] at lr
      by_cases hlt : val a < 0
      · rw [decide_eq_true hlt] at la
        by_cases hr0 : val r ≤ 0
        · rw [decide_eq_true hr0] at lr
          obtain ⟨s, e2, fs, rs⟩ := add_ok r 4614256656552045848 fr fP (by grind) (by grind)
          have ss := rs 4 (by grind) (by grind)
          rw [hu] at ss
          clear rs
          refine ⟨s, fun w => at2_np b a fb fa q r eb ea e1 hr s la lr e2 w, fs, by grind, by grind, ?_⟩
          refine ⟨fun h1 h2 => ?_, fun h1 h2 => ?_, fun h1 h2 => ?_, fun h1 h2 => ?_, fun h1 h2 => ?_, fun h1 h2 => ?_, fun h1 h2 => ?_, fun h1 h2 => ?_⟩ <;> first | (exfalso; grind) | exact ⟨by grind, by grind⟩ | exact .inl ⟨by grind, by grind⟩ | exact .inr ⟨by grind, by grind⟩ | grind
        · rw [decide_eq_false hr0] at lr
          obtain ⟨s, e2, fs, rs⟩ := sub_ok r 4614256656552045848 fr fP (by grind) (by grind)
          have ss := rs 4 (by grind) (by grind)
          rw [hu] at ss
          clear rs
          refine ⟨s, fun w => at2_nn b a fb fa q r eb ea e1 hr s la lr e2 w, fs, by grind, by grind, ?_⟩
          refine ⟨fun h1 h2 => ?_, fun h1 h2 => ?_, fun h1 h2 => ?_, fun h1 h2 => ?_, fun h1 h2 => ?_, fun h1 h2 => ?_, fun h1 h2 => ?_, fun h1 h2 => ?_⟩ <;> first | (exfalso; grind) | exact ⟨by grind, by grind⟩ | exact .inl ⟨by grind, by grind⟩ | exact .inr ⟨by grind, by grind⟩ | grind
      · rw [decide_eq_false hlt] at la
        refine ⟨r, fun w => at2_pos b a fb fa q r eb ea e1 hr la w, fr, by grind, by grind, ?_⟩
        refine ⟨fun h1 h2 => ?_, fun h1 h2 => ?_, fun h1 h2 => ?_, fun h1 h2 => ?_, fun h1 h2 => ?_, fun h1 h2 => ?_, fun h1 h2 => ?_, fun h1 h2 => ?_⟩ <;> first | (exfalso; grind) | exact ⟨by grind, by grind⟩ | exact .inl ⟨by grind, by grind⟩ | exact .inr ⟨by grind, by grind⟩ | grind
end Go.Proofs.Ytafeeebgleecfaa.Mat
