/-
  hslToRgb channel by channel; the closed form's helpers by their contracts.
-/
import Derived.Test.YtafeeebgleecfaaHtr
import Derived.Test.YtafeeebgleecfaaWrq
import Derived.Test.YtafeeebgleecfaaFLR
import Derived.Laws.Cover2
namespace Go.Proofs.Ytafeeebgleecfaa.Mat
open Go.ChangeShapes Go.WideShapes Go.ChangeAt Go.RowKit
open FL
set_option linter.unusedVariables false
theorem hue_any (t1 t2 hue : Nat) (f1 : Finite t1) (f2 : Finite t2) (fh : Finite hue) (a1 : -2 ≤ val t1) (a2 : val t1 ≤ 2) (b1 : -2 ≤ val t2) (b2 : val t2 ≤ 2) (h1 : -40 ≤ val hue) (h2 : val hue ≤ 40) :
    ∃ z, (∀ w, Calls Try.prog 64 #[.agg #[.float .f64 t1], .agg #[.float .f64 t2], .agg #[.float .f64 hue]] w fun e w' => e = .returned (.agg #[.float .f64 z]) ∧ Below w.heap.size w w') ∧ Finite z ∧ ∃ x s : Rat, Sig x s ∧ 0 ≤ x ∧ x ≤ 6 + 1 / 1000000000000 ∧ (∃ j : Int, 6 * val hue - 6 * (j : Rat) - 1 / 1000000000000 ≤ x ∧ x ≤ 6 * val hue - 6 * (j : Rat) + 1 / 1000000000000) ∧ val t1 + (val t2 - val t1) * s - 1 / 100000000000 ≤ val z ∧ val z ≤ val t1 + (val t2 - val t1) * s + 1 / 100000000000 := by
  obtain ⟨f, x0, x, e1, e2, e3, fx, x1, x2, j, j1, j2⟩ := frac6 hue fh h1 h2
  obtain ⟨fo, vo⟩ := cOne
  obtain ⟨f3, v3⟩ := c3
  obtain ⟨f4, v4⟩ := cFour
  have l1 := ltB_ok fx fo
  have l3 := ltB_ok fx f3
  have l4 := ltB_ok fx f4
  rw [vo] at l1
  rw [v3] at l3
  rw [v4] at l4
  by_cases g1 : val x < 1
  · rw [decide_eq_true g1] at l1
    obtain ⟨p, q, z, k1, k2, k3, fz, z1, z2⟩ := lerp6 t1 t2 x f1 f2 fx a1 a2 b1 b2 (by grind) (by grind)
    exact ⟨z, fun w => htr_a t1 t2 hue f x0 x p q z w.heap.size w (Lib.hid rfl) (Lib.hid e1) (Lib.hid e2) (Lib.hid e3) (Lib.hid l1) (Lib.hid k1) (Lib.hid k2) (Lib.hid k3), fz, val x, val x, .inl ⟨g1, rfl⟩, x1, x2, ⟨j, j1, j2⟩, by grind, by grind⟩
  · rw [decide_eq_false g1] at l1
    by_cases g3 : val x < 3
    · rw [decide_eq_true g3] at l3
      exact ⟨t2, fun w => htr_b t1 t2 hue f x0 x w.heap.size w (Lib.hid rfl) (Lib.hid e1) (Lib.hid e2) (Lib.hid e3) (Lib.hid l1) (Lib.hid l3), f2, val x, 1, .inr (.inl ⟨by grind, g3, rfl⟩), x1, x2, ⟨j, j1, j2⟩, by grind, by grind⟩
    · rw [decide_eq_false g3] at l3
      by_cases g4 : val x < 4
      · rw [decide_eq_true g4] at l4
        obtain ⟨b22, b23⟩ := big1022
        have hu : u = 1 / 9007199254740992 := rfl
        obtain ⟨y, e4, fy, r4⟩ := add_ok (FL.flip x) 4616189618054758400 (flip_fin x fx) f4 (by rw [flip_val x fx.1, v4]; grind) (by rw [flip_val x fx.1, v4]; grind)
        rw [flip_val x fx.1, v4] at r4
        have s4 := r4 2 (by grind) (by grind)
        rw [hu] at s4
        clear r4
        obtain ⟨p, q, z, k1, k2, k3, fz, z1, z2⟩ := lerp6 t1 t2 y f1 f2 fy a1 a2 b1 b2 (by grind) (by grind)
        have m := mul_le_abs (a := val t2 - val t1) (b := (val y - (4 - val x)) * 1000000000000000) (M := 4) (by grind) (by grind) (by grind) (by grind)
        exact ⟨z, fun w => htr_c t1 t2 hue f x0 x _ y p q z w.heap.size w (Lib.hid rfl) (Lib.hid e1) (Lib.hid e2) (Lib.hid e3) (Lib.hid l1) (Lib.hid l3) (Lib.hid l4) (Lib.hid rfl) (Lib.hid e4) (Lib.hid k1) (Lib.hid k2) (Lib.hid k3), fz, val x, 4 - val x, .inr (.inr (.inl ⟨by grind, g4, rfl⟩)), x1, x2, ⟨j, j1, j2⟩, by grind, by grind⟩
      · rw [decide_eq_false g4] at l4
        exact ⟨t1, fun w => htr_d t1 t2 hue f x0 x w.heap.size w (Lib.hid rfl) (Lib.hid e1) (Lib.hid e2) (Lib.hid e3) (Lib.hid l1) (Lib.hid l3) (Lib.hid l4), f1, val x, 0, .inr (.inr (.inr ⟨by grind, rfl⟩)), x1, x2, ⟨j, j1, j2⟩, by grind, by grind⟩
/-- t1 and t2 -/
def Ends6 (s l : Rat) (A : Rat) : Prop := (l ≤ 1 / 2 ∧ A = s * l) ∨ (1 / 2 < l ∧ A = s * (1 - l))
theorem ends6_le {s l A : Rat} (h : Ends6 s l A) (s1 : 0 ≤ s) (s2 : s ≤ 1) (l1 : 0 ≤ l) (l2 : l ≤ 1) : 0 ≤ A ∧ A ≤ 1 ∧ A ≤ l ∧ A ≤ 1 - l := by
  rcases h with ⟨h, e⟩ | ⟨h, e⟩
  · have q1 := Rat.mul_nonneg s1 l1
    have q2 := Rat.mul_le_mul_of_nonneg_right s2 l1
    rw [e]; exact ⟨q1, by grind, by grind, by grind⟩
  · have q0 : 0 ≤ 1 - l := by grind
    have q1 := Rat.mul_nonneg s1 q0
    have q2 := Rat.mul_le_mul_of_nonneg_right s2 q0
    rw [e]; exact ⟨q1, by grind, by grind, by grind⟩
/-- one channel, near l + A (2 s - 1) -/
def Ch (h l A : Rat) (off : Rat) (z : Nat) : Prop := Finite z ∧ ∃ x s : Rat, Sig x s ∧ 0 ≤ x ∧ x ≤ 6 + 1 / 1000000000000 ∧ (∃ j : Int, h / 60 + off - 6 * (j : Rat) - 1 / 100000000000 ≤ x ∧ x ≤ h / 60 + off - 6 * (j : Rat) + 1 / 100000000000) ∧ l + A * (2 * s - 1) - 1 / 10000000000 ≤ val z ∧ val z ≤ l + A * (2 * s - 1) + 1 / 10000000000
theorem ch_of {h l A off : Rat} {z : Nat} {t1 t2 hue : Rat} (hz : Finite z) {x s : Rat} (hS : Sig x s) (x0 : 0 ≤ x) (x1 : x ≤ 6 + 1 / 1000000000000) {j : Int} (j1 : 6 * hue - 6 * (j : Rat) - 1 / 1000000000000 ≤ x) (j2 : x ≤ 6 * hue - 6 * (j : Rat) + 1 / 1000000000000) (z1 : t1 + (t2 - t1) * s - 1 / 100000000000 ≤ val z) (z2 : val z ≤ t1 + (t2 - t1) * s + 1 / 100000000000)
    (hh1 : h / 60 + off - 1 / 1000000000000 ≤ 6 * hue) (hh2 : 6 * hue ≤ h / 60 + off + 1 / 1000000000000) (a1 : l - A - 1 / 1000000000000 ≤ t1) (a2 : t1 ≤ l - A + 1 / 1000000000000) (b1 : l + A - 1 / 1000000000000 ≤ t2) (b2 : t2 ≤ l + A + 1 / 1000000000000) : Ch h l A off z := by
  obtain ⟨s1, s2⟩ := sig_le hS x0
  have m := mul_le_abs (a := t2 - t1 - 2 * A) (b := s) (M := 2 / 1000000000000) (by grind) (by grind) (by grind) (by grind)
  exact ⟨hz, x, s, hS, x0, x1, ⟨j, by grind, by grind⟩, by grind, by grind⟩
/-- hslToRgb -/
theorem h2r_any (h s l : Nat) (fh : Finite h) (fs : Finite s) (fl : Finite l) (h1 : -10000 ≤ val h) (h2 : val h ≤ 10000) (s1 : 0 ≤ val s) (s2 : val s ≤ 1) (l1 : 0 ≤ val l) (l2 : val l ≤ 1) :
    ∃ zr zg zb A, (∀ w, Calls Try.prog 11 #[.float .f64 h, .float .f64 s, .float .f64 l] w fun e w' => e = .returned (.tuple #[.float .f64 zr, .float .f64 zg, .float .f64 zb]) ∧ Below w.heap.size w w') ∧ Ends6 (val s) (val l) A ∧ Ch (val h) (val l) A 2 zr ∧ Ch (val h) (val l) A 0 zg ∧ Ch (val h) (val l) A (-2) zb := by
  obtain ⟨b22, b23⟩ := big1022
  have hu : u = 1 / 9007199254740992 := rfl
  have he := eta_nano
  have he0 := eta_pos
  obtain ⟨fc, vc⟩ := c360
  obtain ⟨fo, vo⟩ := cOne
  obtain ⟨f2, v2⟩ := cTwo
  obtain ⟨ft, vt1, vt2⟩ := cThird
  obtain ⟨fhf, vhf⟩ := cHalf
  obtain ⟨qh, e1, g1, r1⟩ := div_ok h 4645040803167600640 fh fc (by rw [vc]; decide +kernel) (val h / 360) (by rw [vc]; grind) (by grind) (by grind)
  have c1 := r1 28 (by grind) (by grind)
  rw [hu] at c1
  clear r1
  obtain ⟨hr, e2, g2, r2⟩ := add_ok qh 4599676419421066581 g1 ft (by grind) (by grind)
  have c2 := r2 30 (by grind) (by grind)
  rw [hu] at c2
  clear r2
  obtain ⟨hb, e3, g3, r3⟩ := sub_ok qh 4599676419421066581 g1 ft (by grind) (by grind)
  have c3 := r3 30 (by grind) (by grind)
  rw [hu] at c3
  clear r3
  obtain ⟨l2w, e4, g4, r4⟩ := mul_ok l 4611686018427387904 fl f2 (by rw [v2]; grind) (by rw [v2]; grind)
  rw [v2] at r4
  have c4 := r4 2 (by grind) (by grind)
  rw [hu] at c4
  clear r4
  have hq := leB_ok fl fhf
  rw [vhf] at hq
  by_cases hl : val l ≤ 1 / 2
  · rw [decide_eq_true hl] at hq
    have hE : Ends6 (val s) (val l) (val s * val l) := .inl ⟨hl, rfl⟩
    obtain ⟨A1, A2, A3, A4⟩ := ends6_le hE s1 s2 l1 l2
    obtain ⟨s1w, e5, g5, r5⟩ := add_ok s 4607182418800017408 fs fo (by rw [vo]; grind) (by rw [vo]; grind)
    rw [vo] at r5
    have c5 := r5 2 (by grind) (by grind)
    rw [hu] at c5
    clear r5
    have m := mul_le_abs (a := val s1w - (val s + 1)) (b := val l) (M := 1 / 1000000000000000) (by grind) (by grind) (by grind) (by grind)
    have ep : val s1w * val l = val s * val l + val l + (val s1w - (val s + 1)) * val l := by grind
    obtain ⟨t2, e6, g6, r6⟩ := mul_ok s1w l g5 fl (by grind) (by grind)
    have c6 := r6 4 (by grind) (by grind)
    rw [hu] at c6
    clear r6
    obtain ⟨t1, e7, g7, r7⟩ := sub_ok l2w t2 g4 g6 (by grind) (by grind)
    have c7 := r7 4 (by grind) (by grind)
    rw [hu] at c7
    clear r7
    obtain ⟨zr, HR, fr, xr, sr, Sr, xr0, xr1, ⟨jr, jr1, jr2⟩, zr1, zr2⟩ := hue_any t1 t2 hr g7 g6 g2 (by grind) (by grind) (by grind) (by grind) (by grind) (by grind)
    obtain ⟨zg, HG, fg, xg, sg, Sg, xg0, xg1, ⟨jg, jg1, jg2⟩, zg1, zg2⟩ := hue_any t1 t2 qh g7 g6 g1 (by grind) (by grind) (by grind) (by grind) (by grind) (by grind)
    obtain ⟨zb, HB, fb, xb, sb, Sb, xb0, xb1, ⟨jb, jb1, jb2⟩, zb1, zb2⟩ := hue_any t1 t2 hb g7 g6 g3 (by grind) (by grind) (by grind) (by grind) (by grind) (by grind)
    refine ⟨zr, zg, zb, val s * val l, ZZhslToRgb_n011_126_any h s l zr zg zb (fun w => h2r_lo h s l qh t2 l2w t1 hr hb zr zg zb s1w w.heap.size w (Lib.hid rfl) (Lib.hid e1) (Lib.hid hq) (Lib.hid e5) (Lib.hid e6) (Lib.hid e4) (Lib.hid e7) (Lib.hid e2) (Lib.hid e3) (Lib.hid HR) (Lib.hid HG) (Lib.hid HB)), hE, ?_, ?_, ?_⟩
    · clear jg1 jg2 zg1 zg2 jb1 jb2 zb1 zb2
      exact ch_of fr Sr xr0 xr1 jr1 jr2 zr1 zr2 (by grind) (by grind) (by grind) (by grind) (by grind) (by grind)
    · clear jr1 jr2 zr1 zr2 jb1 jb2 zb1 zb2
      exact ch_of fg Sg xg0 xg1 jg1 jg2 zg1 zg2 (by grind) (by grind) (by grind) (by grind) (by grind) (by grind)
    · clear jg1 jg2 zg1 zg2 jr1 jr2 zr1 zr2
      exact ch_of fb Sb xb0 xb1 jb1 jb2 zb1 zb2 (by grind) (by grind) (by grind) (by grind) (by grind) (by grind)
  · rw [decide_eq_false hl] at hq
    have hE : Ends6 (val s) (val l) (val s * (1 - val l)) := .inr ⟨by grind, rfl⟩
    obtain ⟨A1, A2, A3, A4⟩ := ends6_le hE s1 s2 l1 l2
    obtain ⟨u1, e5, g5, r5⟩ := add_ok l s fl fs (by grind) (by grind)
    have c5 := r5 2 (by grind) (by grind)
    rw [hu] at c5
    clear r5
    have m := mul_le_abs (a := val l) (b := val s) (M := 1) (by grind) (by grind) (by grind) (by grind)
    obtain ⟨u2, e8, g8, r8⟩ := mul_ok l s fl fs (by grind) (by grind)
    have c8 := r8 6 (by grind) (by grind)
    rw [hu] at c8
    clear r8
    obtain ⟨t2, e6, g6, r6⟩ := sub_ok u1 u2 g5 g8 (by grind) (by grind)
    have c6 := r6 10 (by grind) (by grind)
    rw [hu] at c6
    clear r6
    obtain ⟨t1, e7, g7, r7⟩ := sub_ok l2w t2 g4 g6 (by grind) (by grind)
    have c7 := r7 10 (by grind) (by grind)
    rw [hu] at c7
    clear r7
    have eA : val s * (1 - val l) = val s - val l * val s := by grind
    obtain ⟨zr, HR, fr, xr, sr, Sr, xr0, xr1, ⟨jr, jr1, jr2⟩, zr1, zr2⟩ := hue_any t1 t2 hr g7 g6 g2 (by grind) (by grind) (by grind) (by grind) (by grind) (by grind)
    obtain ⟨zg, HG, fg, xg, sg, Sg, xg0, xg1, ⟨jg, jg1, jg2⟩, zg1, zg2⟩ := hue_any t1 t2 qh g7 g6 g1 (by grind) (by grind) (by grind) (by grind) (by grind) (by grind)
    obtain ⟨zb, HB, fb, xb, sb, Sb, xb0, xb1, ⟨jb, jb1, jb2⟩, zb1, zb2⟩ := hue_any t1 t2 hb g7 g6 g3 (by grind) (by grind) (by grind) (by grind) (by grind) (by grind)
    refine ⟨zr, zg, zb, val s * (1 - val l), ZZhslToRgb_n011_126_any h s l zr zg zb (fun w => h2r_hi h s l qh t2 l2w t1 hr hb zr zg zb u1 u2 w.heap.size w (Lib.hid rfl) (Lib.hid e1) (Lib.hid hq) (Lib.hid e5) (Lib.hid e8) (Lib.hid e6) (Lib.hid e4) (Lib.hid e7) (Lib.hid e2) (Lib.hid e3) (Lib.hid HR) (Lib.hid HG) (Lib.hid HB)), hE, ?_, ?_, ?_⟩
    · clear jg1 jg2 zg1 zg2 jb1 jb2 zb1 zb2
      exact ch_of fr Sr xr0 xr1 jr1 jr2 zr1 zr2 (by grind) (by grind) (by grind) (by grind) (by grind) (by grind)
    · clear jr1 jr2 zr1 zr2 jb1 jb2 zb1 zb2
      exact ch_of fg Sg xg0 xg1 jg1 jg2 zg1 zg2 (by grind) (by grind) (by grind) (by grind) (by grind) (by grind)
    · clear jg1 jg2 zg1 zg2 jr1 jr2 zr1 zr2
      exact ch_of fb Sb xb0 xb1 jb1 jb2 zb1 zb2 (by grind) (by grind) (by grind) (by grind) (by grind) (by grind)
end Go.Proofs.Ytafeeebgleecfaa.Mat
