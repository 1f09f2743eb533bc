/-
  A colour to hue, saturation and light and back: near the colour.
-/
import Derived.Test.YtafeeebgleecfaaHsl
import Derived.Test.YtafeeebgleecfaaHsm
import Derived.Test.YtafeeebgleecfaaWrp
import Derived.Test.YtafeeebgleecfaaRgb
import Derived.Test.YtafeeebgleecfaaFLQ
namespace Go.Proofs.Ytafeeebgleecfaa.Mat
open Go.ChangeShapes Go.WideShapes Go.ChangeAt Go.RowKit
open FL
set_option linter.unusedVariables false
theorem c8 : Finite 4620693217682128896 ∧ val 4620693217682128896 = 8 := by constructor <;> decide +kernel
/-- the way back, over a hue near 60 H -/
theorem back16 (h sO lO sa li om : Nat) (H L A T0 T8 T4 : Rat) (fh : Finite h) (h1 : 60 * H - 1 / 10000000000 ≤ val h) (h2 : val h ≤ 60 * H + 1 / 10000000000) (H1 : 0 ≤ H) (H2 : H ≤ 6) (es : Ieee.double.div sO 4636737291354636288 = some sa) (fs : Finite sa) (el : Ieee.double.div lO 4636737291354636288 = some li) (fl : Finite li) (eo : Ieee.double.add (FL.flip li) 4607182418800017408 = some om) (fmi : Finite (minW li om))
    (l1 : L - 1 / 1000000000000 ≤ val li) (l2 : val li ≤ L + 1 / 1000000000000) (L1 : 0 ≤ L) (L2 : L ≤ 1) (A1 : 0 ≤ A) (A2 : A ≤ 1 / 2) (hA1 : A - 1 / 100000000000 ≤ val (minW li om) * val sa) (hA2 : val (minW li om) * val sa ≤ A + 1 / 100000000000) (t0 : Trap (2 * H) T0) (t8 : Trap (2 * H + 8) T8) (t4 : Trap (2 * H + 4) T4) :
    ∃ z0 z8 z4, (∀ w, Calls Try.prog 26 #[.float .f64 h, .float .f64 sO, .float .f64 lO] w fun e w' => e = .returned (.tuple #[.float .f64 z0, .float .f64 z8, .float .f64 z4]) ∧ Below w.heap.size w w') ∧
      (Finite z0 ∧ L - T0 * A - 9 / 10000000000 ≤ val z0 ∧ val z0 ≤ L - T0 * A + 9 / 10000000000) ∧ (Finite z8 ∧ L - T8 * A - 9 / 10000000000 ≤ val z8 ∧ val z8 ≤ L - T8 * A + 9 / 10000000000) ∧ (Finite z4 ∧ L - T4 * A - 9 / 10000000000 ≤ val z4 ∧ val z4 ≤ L - T4 * A + 9 / 10000000000) := by
  obtain ⟨b22, b23⟩ := big1022
  have hu : u = 1 / 9007199254740992 := rfl
  have he := eta_nano
  have he0 := eta_pos
  obtain ⟨q, f, q2, e1, e2, e3, f3, q1, q4, n, -, -, n3, n4⟩ := frac49 h fh (by grind) (by grind)
  obtain ⟨fc, vc⟩ := c360
  obtain ⟨hue, e5, f5, r5⟩ := mul_ok q2 4645040803167600640 f3 fc (by rw [vc]; grind) (by rw [vc]; grind)
  rw [vc] at r5
  have s5 := r5 361 (by grind) (by grind)
  rw [hu] at s5
  clear r5
  have en : ((-n : Int) : Rat) = -(n : Rat) := Rat.intCast_neg _
  obtain ⟨fn8, vn8⟩ := c8
  obtain ⟨fn4, vn4⟩ := cFour
  obtain ⟨k0_0, k1_0, k2_0, fk_0, k3_0, k_0, a_0, x1_0, x2_0, mn3_0, t_0, y_0, z0, c0_0, c1_0, c2_0, c3_0, c4_0, c5_0, c6_0, c7_0, c8_0, c9_0, c10_0, c11_0, c12_0, w_0⟩ := chan16 hue li sa 0 (minW li om) 0 (2 * H) T0 L A (-n) f5 fl fs fin_zero val_zero (by grind) (by grind) (by grind) (by grind) (by rw [en]; grind) (by rw [en]; grind) t0 l1 l2 L1 L2 fmi A1 A2 hA1 hA2
  have C0 : Chan hue li sa 0 k0_0 k1_0 k2_0 fk_0 k3_0 k_0 (FL.flip li) om (minW li om) a_0 x1_0 (FL.flip k_0) x2_0 mn3_0 t_0 y_0 z0 := ⟨c0_0, c1_0, c2_0, c3_0, c4_0, c5_0, rfl, eo, rfl, c6_0, c7_0, rfl, c8_0, c9_0, c10_0, c11_0, c12_0⟩
  obtain ⟨k0_8, k1_8, k2_8, fk_8, k3_8, k_8, a_8, x1_8, x2_8, mn3_8, t_8, y_8, z8, c0_8, c1_8, c2_8, c3_8, c4_8, c5_8, c6_8, c7_8, c8_8, c9_8, c10_8, c11_8, c12_8, w_8⟩ := chan16 hue li sa 4620693217682128896 (minW li om) 8 (2 * H + 8) T8 L A (-n) f5 fl fs fn8 vn8 (by grind) (by grind) (by grind) (by grind) (by rw [en]; grind) (by rw [en]; grind) t8 l1 l2 L1 L2 fmi A1 A2 hA1 hA2
  have C8 : Chan hue li sa 4620693217682128896 k0_8 k1_8 k2_8 fk_8 k3_8 k_8 (FL.flip li) om (minW li om) a_8 x1_8 (FL.flip k_8) x2_8 mn3_8 t_8 y_8 z8 := ⟨c0_8, c1_8, c2_8, c3_8, c4_8, c5_8, rfl, eo, rfl, c6_8, c7_8, rfl, c8_8, c9_8, c10_8, c11_8, c12_8⟩
  obtain ⟨k0_4, k1_4, k2_4, fk_4, k3_4, k_4, a_4, x1_4, x2_4, mn3_4, t_4, y_4, z4, c0_4, c1_4, c2_4, c3_4, c4_4, c5_4, c6_4, c7_4, c8_4, c9_4, c10_4, c11_4, c12_4, w_4⟩ := chan16 hue li sa 4616189618054758400 (minW li om) 4 (2 * H + 4) T4 L A (-n) f5 fl fs fn4 vn4 (by grind) (by grind) (by grind) (by grind) (by rw [en]; grind) (by rw [en]; grind) t4 l1 l2 L1 L2 fmi A1 A2 hA1 hA2
  have C4 : Chan hue li sa 4616189618054758400 k0_4 k1_4 k2_4 fk_4 k3_4 k_4 (FL.flip li) om (minW li om) a_4 x1_4 (FL.flip k_4) x2_4 mn3_4 t_4 y_4 z4 := ⟨c0_4, c1_4, c2_4, c3_4, c4_4, c5_4, rfl, eo, rfl, c6_4, c7_4, rfl, c8_4, c9_4, c10_4, c11_4, c12_4⟩
  exact ⟨z0, z8, z4, ZZhslToRGB_n011_142_any h sO lO z0 z8 z4 (fun w => rgb_of h sO lO q f q2 hue sa li z0 z8 z4 w.heap.size w (Lib.hid rfl) (Lib.hid e1) (Lib.hid e2) (Lib.hid e3) (Lib.hid e5) (Lib.hid es) (Lib.hid el) k0_0 k1_0 k2_0 fk_0 k3_0 k_0 (FL.flip li) om (minW li om) a_0 x1_0 (FL.flip k_0) x2_0 mn3_0 t_0 y_0 (Lib.hid C0) k0_8 k1_8 k2_8 fk_8 k3_8 k_8 (FL.flip li) om (minW li om) a_8 x1_8 (FL.flip k_8) x2_8 mn3_8 t_8 y_8 (Lib.hid C8) k0_4 k1_4 k2_4 fk_4 k3_4 k_4 (FL.flip li) om (minW li om) a_4 x1_4 (FL.flip k_4) x2_4 mn3_4 t_4 y_4 (Lib.hid C4)), w_0, w_8, w_4⟩
theorem nonneg_of {X D : Rat} (hD : 0 < D) (h : 0 ≤ X * D) : 0 ≤ X := mul_le_cancel hD (by rw [Rat.zero_mul]; exact h)
theorem nonpos_of {X D : Rat} (hD : 0 < D) (h : X * D ≤ 0) : X ≤ 0 := mul_le_cancel hD (by rw [Rat.zero_mul]; exact h)
/-- the colour, there and back -/
def Round16 (r g b : Nat) : Prop := ∃ h s l z0 z8 z4, (∀ w, Calls Try.prog 25 #[.float .f64 r, .float .f64 g, .float .f64 b] w fun e w' => e = .returned (.tuple #[.float .f64 h, .float .f64 s, .float .f64 l]) ∧ Below w.heap.size w w') ∧ (∀ w, Calls Try.prog 26 #[.float .f64 h, .float .f64 s, .float .f64 l] w fun e w' => e = .returned (.tuple #[.float .f64 z0, .float .f64 z8, .float .f64 z4]) ∧ Below w.heap.size w w') ∧
  (Finite z0 ∧ val r - 9 / 10000000000 ≤ val z0 ∧ val z0 ≤ val r + 9 / 10000000000) ∧ (Finite z8 ∧ val g - 9 / 10000000000 ≤ val z8 ∧ val z8 ≤ val g + 9 / 10000000000) ∧ (Finite z4 ∧ val b - 9 / 10000000000 ≤ val z4 ∧ val z4 ≤ val b + 9 / 10000000000)
theorem zero_hundred : Ieee.double.mul 0 4636737291354636288 = some 0 := by decide +kernel
theorem round_red (r g b : Nat) (fr : Finite r) (fg : Finite g) (fb : Finite b) (mx mn : Nat) (hmx : maxW (maxW r g) b = mx) (hmn : minW (minW r g) b = mn) (fl : Finite mn) (fh : Finite mx) (h0 : 0 ≤ val mn) (hlt : val mn < val mx) (h1 : val mx ≤ 1)
    (r1 : val mn ≤ val r) (r2 : val r ≤ val mx) (g1 : val mn ≤ val g) (g2 : val g ≤ val mx) (b1 : val mn ≤ val b) (b2 : val b ≤ val mx) (k1 : eqB mx r = true) (k4 : ltB g b = false) (hr : val mx = val r) (hgb : val b ≤ val g) (hm : val mn = val b) : Round16 r g b := by
  obtain ⟨b22, b23⟩ := big1022
  have hu : u = 1 / 9007199254740992 := rfl
  have he := eta_nano
  have he0 := eta_pos
  obtain ⟨d, p, q, e1, q5, e2, e3, f3, X, hX, X1, X2, X3, X4⟩ := ratio16 g b mn mx fg fb fl fh h0 hlt h1 (by grind) (by grind)
  obtain ⟨sm, li, lO, om, l', om', m1, m2, m3, m4, m5, m6, fl', fmi, L1, L2, hs⟩ := sat16 mn mx fl fh h0 hlt h1
  have hD : 0 < val mx - val mn := by grind
  obtain ⟨f6, v6⟩ := cSixty
  obtain ⟨h, e5, f5, r5⟩ := mul_ok q 4633641066610819072 f3 f6 (by rw [v6]; grind) (by rw [v6]; grind)
  rw [v6] at r5
  have s5 := r5 500 (by grind) (by grind)
  rw [hu] at s5
  clear r5
  have hsl : ∃ sO sa, (∀ w, Calls Try.prog 50 #[.agg #[.float .f64 r], .agg #[.float .f64 g], .agg #[.float .f64 b]] w fun e w' => e = .returned (.tuple #[.agg #[.float .f64 h], .agg #[.float .f64 sO], .agg #[.float .f64 lO]]) ∧ Below w.heap.size w w') ∧ Ieee.double.div sO 4636737291354636288 = some sa ∧ Finite sa ∧ (val mx - val mn) / 2 - 1 / 100000000000 ≤ val (minW l' om') * val sa ∧ val (minW l' om') * val sa ≤ (val mx - val mn) / 2 + 1 / 100000000000 := by
    rcases hs with ⟨hq, hsm⟩ | ⟨hq, t, sat, sO, s', n1, n2, n3, n4, n5, n6, n7⟩
    · refine ⟨0, 0, fun w => hsl_red0 r g b mx mn sm li d lO 0 w.heap.size w (Lib.hid rfl) (Lib.hid hmx) (Lib.hid hmn) (Lib.hid m1) (Lib.hid m2) (Lib.hid e1) (Lib.hid m3) (FL.flip li) om (minW li om) p q q h (Lib.hid q5) (Lib.hid rfl) (Lib.hid m4) (Lib.hid rfl) (Lib.hid hq) (Lib.hid zero_hundred) (Lib.hid k1) (Lib.hid e2) (Lib.hid e3) (Lib.hid k4) (Lib.hid rfl) (Lib.hid e5), zero_div_hundred, fin_zero, ?_⟩
      rw [val_zero, Rat.mul_zero]
      exact ⟨by grind, by grind⟩
    · exact ⟨sO, s', fun w => hsl_red1 r g b mx mn sm li d lO sO w.heap.size w (Lib.hid rfl) (Lib.hid hmx) (Lib.hid hmn) (Lib.hid m1) (Lib.hid m2) (Lib.hid e1) (Lib.hid m3) (FL.flip li) om (minW li om) p q q h t sat (Lib.hid q5) (Lib.hid rfl) (Lib.hid m4) (Lib.hid rfl) (Lib.hid hq) (Lib.hid n1) (Lib.hid n2) (Lib.hid n3) (Lib.hid k1) (Lib.hid e2) (Lib.hid e3) (Lib.hid k4) (Lib.hid rfl) (Lib.hid e5), n4, n5, n6, n7⟩
  obtain ⟨sO, sa, hc, e7, f7, A1, A2⟩ := hsl
  clear hs
  have hX0 : 0 ≤ X := nonneg_of hD (by rw [hX]; grind)
  obtain ⟨z0, z8, z4, hb, w0, w8, w4⟩ := back16 h sO lO sa l' om' (X) ((val mn + val mx) / 2) ((val mx - val mn) / 2) (-1) (1 - 2 * X) (1) f5 (by grind) (by grind) (by grind) (by grind) e7 f7 m5 fl' m6 fmi L1 L2 (by grind) (by grind) (by grind) (by grind) A1 A2 (by unfold Trap; grind) (by unfold Trap; grind) (by unfold Trap; grind)
  exact ⟨h, sO, lO, z0, z8, z4, ZZrgbToHSL_n011_142_any r g b h sO lO hc, hb, ⟨w0.1, by grind, by grind⟩, ⟨w8.1, by grind, by grind⟩, ⟨w4.1, by grind, by grind⟩⟩
theorem round_redb (r g b : Nat) (fr : Finite r) (fg : Finite g) (fb : Finite b) (mx mn : Nat) (hmx : maxW (maxW r g) b = mx) (hmn : minW (minW r g) b = mn) (fl : Finite mn) (fh : Finite mx) (h0 : 0 ≤ val mn) (hlt : val mn < val mx) (h1 : val mx ≤ 1)
    (r1 : val mn ≤ val r) (r2 : val r ≤ val mx) (g1 : val mn ≤ val g) (g2 : val g ≤ val mx) (b1 : val mn ≤ val b) (b2 : val b ≤ val mx) (k1 : eqB mx r = true) (k4 : ltB g b = true) (hr : val mx = val r) (hgb : val g ≤ val b) (hm : val mn = val g) : Round16 r g b := by
  obtain ⟨b22, b23⟩ := big1022
  have hu : u = 1 / 9007199254740992 := rfl
  have he := eta_nano
  have he0 := eta_pos
  obtain ⟨d, p, q, e1, q5, e2, e3, f3, X, hX, X1, X2, X3, X4⟩ := ratio16 g b mn mx fg fb fl fh h0 hlt h1 (by grind) (by grind)
  obtain ⟨sm, li, lO, om, l', om', m1, m2, m3, m4, m5, m6, fl', fmi, L1, L2, hs⟩ := sat16 mn mx fl fh h0 hlt h1
  have hD : 0 < val mx - val mn := by grind
  obtain ⟨f6, v6⟩ := cSixty
  obtain ⟨fk, vk⟩ := cSix
  obtain ⟨hh, e4, f4, r4⟩ := add_ok q 4618441417868443648 f3 fk (by rw [vk]; grind) (by rw [vk]; grind)
  rw [vk] at r4
  have s4 := r4 8 (by grind) (by grind)
  rw [hu] at s4
  clear r4
  obtain ⟨h, e5, f5, r5⟩ := mul_ok hh 4633641066610819072 f4 f6 (by rw [v6]; grind) (by rw [v6]; grind)
  rw [v6] at r5
  have s5 := r5 500 (by grind) (by grind)
  rw [hu] at s5
  clear r5
  have hsl : ∃ sO sa, (∀ w, Calls Try.prog 50 #[.agg #[.float .f64 r], .agg #[.float .f64 g], .agg #[.float .f64 b]] w fun e w' => e = .returned (.tuple #[.agg #[.float .f64 h], .agg #[.float .f64 sO], .agg #[.float .f64 lO]]) ∧ Below w.heap.size w w') ∧ Ieee.double.div sO 4636737291354636288 = some sa ∧ Finite sa ∧ (val mx - val mn) / 2 - 1 / 100000000000 ≤ val (minW l' om') * val sa ∧ val (minW l' om') * val sa ≤ (val mx - val mn) / 2 + 1 / 100000000000 := by
    rcases hs with ⟨hq, hsm⟩ | ⟨hq, t, sat, sO, s', n1, n2, n3, n4, n5, n6, n7⟩
    · refine ⟨0, 0, fun w => hsl_redb0 r g b mx mn sm li d lO 0 w.heap.size w (Lib.hid rfl) (Lib.hid hmx) (Lib.hid hmn) (Lib.hid m1) (Lib.hid m2) (Lib.hid e1) (Lib.hid m3) (FL.flip li) om (minW li om) p q hh h (Lib.hid q5) (Lib.hid rfl) (Lib.hid m4) (Lib.hid rfl) (Lib.hid hq) (Lib.hid zero_hundred) (Lib.hid k1) (Lib.hid e2) (Lib.hid e3) (Lib.hid k4) (Lib.hid e4) (Lib.hid e5), zero_div_hundred, fin_zero, ?_⟩
      rw [val_zero, Rat.mul_zero]
      exact ⟨by grind, by grind⟩
    · exact ⟨sO, s', fun w => hsl_redb1 r g b mx mn sm li d lO sO w.heap.size w (Lib.hid rfl) (Lib.hid hmx) (Lib.hid hmn) (Lib.hid m1) (Lib.hid m2) (Lib.hid e1) (Lib.hid m3) (FL.flip li) om (minW li om) p q hh h t sat (Lib.hid q5) (Lib.hid rfl) (Lib.hid m4) (Lib.hid rfl) (Lib.hid hq) (Lib.hid n1) (Lib.hid n2) (Lib.hid n3) (Lib.hid k1) (Lib.hid e2) (Lib.hid e3) (Lib.hid k4) (Lib.hid e4) (Lib.hid e5), n4, n5, n6, n7⟩
  obtain ⟨sO, sa, hc, e7, f7, A1, A2⟩ := hsl
  clear hs
  have hX0 : X ≤ 0 := nonpos_of hD (by rw [hX]; grind)
  obtain ⟨z0, z8, z4, hb, w0, w8, w4⟩ := back16 h sO lO sa l' om' (X + 6) ((val mn + val mx) / 2) ((val mx - val mn) / 2) (-1) (1) (1 + 2 * X) f5 (by grind) (by grind) (by grind) (by grind) e7 f7 m5 fl' m6 fmi L1 L2 (by grind) (by grind) (by grind) (by grind) A1 A2 (by unfold Trap; grind) (by unfold Trap; grind) (by unfold Trap; grind)
  exact ⟨h, sO, lO, z0, z8, z4, ZZrgbToHSL_n011_142_any r g b h sO lO hc, hb, ⟨w0.1, by grind, by grind⟩, ⟨w8.1, by grind, by grind⟩, ⟨w4.1, by grind, by grind⟩⟩
theorem round_green (r g b : Nat) (fr : Finite r) (fg : Finite g) (fb : Finite b) (mx mn : Nat) (hmx : maxW (maxW r g) b = mx) (hmn : minW (minW r g) b = mn) (fl : Finite mn) (fh : Finite mx) (h0 : 0 ≤ val mn) (hlt : val mn < val mx) (h1 : val mx ≤ 1)
    (r1 : val mn ≤ val r) (r2 : val r ≤ val mx) (g1 : val mn ≤ val g) (g2 : val g ≤ val mx) (b1 : val mn ≤ val b) (b2 : val b ≤ val mx) (k1 : eqB mx r = false) (k2 : eqB mx g = true) (hr : val mx = val g) (hm : (val b ≤ val r → val mn = val b) ∧ (val r ≤ val b → val mn = val r)) : Round16 r g b := by
  obtain ⟨b22, b23⟩ := big1022
  have hu : u = 1 / 9007199254740992 := rfl
  have he := eta_nano
  have he0 := eta_pos
  obtain ⟨d, p, q, e1, q5, e2, e3, f3, X, hX, X1, X2, X3, X4⟩ := ratio16 b r mn mx fb fr fl fh h0 hlt h1 (by grind) (by grind)
  obtain ⟨sm, li, lO, om, l', om', m1, m2, m3, m4, m5, m6, fl', fmi, L1, L2, hs⟩ := sat16 mn mx fl fh h0 hlt h1
  have hD : 0 < val mx - val mn := by grind
  obtain ⟨f6, v6⟩ := cSixty
  obtain ⟨fk, vk⟩ := cTwo
  obtain ⟨hh, e4, f4, r4⟩ := add_ok q 4611686018427387904 f3 fk (by rw [vk]; grind) (by rw [vk]; grind)
  rw [vk] at r4
  have s4 := r4 8 (by grind) (by grind)
  rw [hu] at s4
  clear r4
  obtain ⟨h, e5, f5, r5⟩ := mul_ok hh 4633641066610819072 f4 f6 (by rw [v6]; grind) (by rw [v6]; grind)
  rw [v6] at r5
  have s5 := r5 500 (by grind) (by grind)
  rw [hu] at s5
  clear r5
  have hsl : ∃ sO sa, (∀ w, Calls Try.prog 50 #[.agg #[.float .f64 r], .agg #[.float .f64 g], .agg #[.float .f64 b]] w fun e w' => e = .returned (.tuple #[.agg #[.float .f64 h], .agg #[.float .f64 sO], .agg #[.float .f64 lO]]) ∧ Below w.heap.size w w') ∧ Ieee.double.div sO 4636737291354636288 = some sa ∧ Finite sa ∧ (val mx - val mn) / 2 - 1 / 100000000000 ≤ val (minW l' om') * val sa ∧ val (minW l' om') * val sa ≤ (val mx - val mn) / 2 + 1 / 100000000000 := by
    rcases hs with ⟨hq, hsm⟩ | ⟨hq, t, sat, sO, s', n1, n2, n3, n4, n5, n6, n7⟩
    · refine ⟨0, 0, fun w => hsl_green0 r g b mx mn sm li d lO 0 w.heap.size w (Lib.hid rfl) (Lib.hid hmx) (Lib.hid hmn) (Lib.hid m1) (Lib.hid m2) (Lib.hid e1) (Lib.hid m3) (FL.flip li) om (minW li om) p q hh h (Lib.hid q5) (Lib.hid rfl) (Lib.hid m4) (Lib.hid rfl) (Lib.hid hq) (Lib.hid zero_hundred) (Lib.hid k1) (Lib.hid k2) (Lib.hid e2) (Lib.hid e3) (Lib.hid e4) (Lib.hid e5), zero_div_hundred, fin_zero, ?_⟩
      rw [val_zero, Rat.mul_zero]
      exact ⟨by grind, by grind⟩
    · exact ⟨sO, s', fun w => hsl_green1 r g b mx mn sm li d lO sO w.heap.size w (Lib.hid rfl) (Lib.hid hmx) (Lib.hid hmn) (Lib.hid m1) (Lib.hid m2) (Lib.hid e1) (Lib.hid m3) (FL.flip li) om (minW li om) p q hh h t sat (Lib.hid q5) (Lib.hid rfl) (Lib.hid m4) (Lib.hid rfl) (Lib.hid hq) (Lib.hid n1) (Lib.hid n2) (Lib.hid n3) (Lib.hid k1) (Lib.hid k2) (Lib.hid e2) (Lib.hid e3) (Lib.hid e4) (Lib.hid e5), n4, n5, n6, n7⟩
  obtain ⟨sO, sa, hc, e7, f7, A1, A2⟩ := hsl
  clear hs
  rcases (by grind : 0 ≤ X ∨ X ≤ 0) with hX0 | hX0
  · have hm2 := hm.2 (by have := Rat.mul_nonneg hX0 (Rat.le_of_lt hD); grind)
    obtain ⟨z0, z8, z4, hb, w0, w8, w4⟩ := back16 h sO lO sa l' om' (X + 2) ((val mn + val mx) / 2) ((val mx - val mn) / 2) (1) (-1) (1 - 2 * X) f5 (by grind) (by grind) (by grind) (by grind) e7 f7 m5 fl' m6 fmi L1 L2 (by grind) (by grind) (by grind) (by grind) A1 A2 (by unfold Trap; grind) (by unfold Trap; grind) (by unfold Trap; grind)
    exact ⟨h, sO, lO, z0, z8, z4, ZZrgbToHSL_n011_142_any r g b h sO lO hc, hb, ⟨w0.1, by grind, by grind⟩, ⟨w8.1, by grind, by grind⟩, ⟨w4.1, by grind, by grind⟩⟩
  · have hm2 := hm.1 (by have := Rat.mul_nonneg (show 0 ≤ -X by grind) (Rat.le_of_lt hD); grind)
    obtain ⟨z0, z8, z4, hb, w0, w8, w4⟩ := back16 h sO lO sa l' om' (X + 2) ((val mn + val mx) / 2) ((val mx - val mn) / 2) (1 + 2 * X) (-1) (1) f5 (by grind) (by grind) (by grind) (by grind) e7 f7 m5 fl' m6 fmi L1 L2 (by grind) (by grind) (by grind) (by grind) A1 A2 (by unfold Trap; grind) (by unfold Trap; grind) (by unfold Trap; grind)
    exact ⟨h, sO, lO, z0, z8, z4, ZZrgbToHSL_n011_142_any r g b h sO lO hc, hb, ⟨w0.1, by grind, by grind⟩, ⟨w8.1, by grind, by grind⟩, ⟨w4.1, by grind, by grind⟩⟩
theorem round_blue (r g b : Nat) (fr : Finite r) (fg : Finite g) (fb : Finite b) (mx mn : Nat) (hmx : maxW (maxW r g) b = mx) (hmn : minW (minW r g) b = mn) (fl : Finite mn) (fh : Finite mx) (h0 : 0 ≤ val mn) (hlt : val mn < val mx) (h1 : val mx ≤ 1)
    (r1 : val mn ≤ val r) (r2 : val r ≤ val mx) (g1 : val mn ≤ val g) (g2 : val g ≤ val mx) (b1 : val mn ≤ val b) (b2 : val b ≤ val mx) (k1 : eqB mx r = false) (k2 : eqB mx g = false) (k7 : eqB mx b = true) (hr : val mx = val b) (hm : (val r ≤ val g → val mn = val r) ∧ (val g ≤ val r → val mn = val g)) : Round16 r g b := by
  obtain ⟨b22, b23⟩ := big1022
  have hu : u = 1 / 9007199254740992 := rfl
  have he := eta_nano
  have he0 := eta_pos
  obtain ⟨d, p, q, e1, q5, e2, e3, f3, X, hX, X1, X2, X3, X4⟩ := ratio16 r g mn mx fr fg fl fh h0 hlt h1 (by grind) (by grind)
  obtain ⟨sm, li, lO, om, l', om', m1, m2, m3, m4, m5, m6, fl', fmi, L1, L2, hs⟩ := sat16 mn mx fl fh h0 hlt h1
  have hD : 0 < val mx - val mn := by grind
  obtain ⟨f6, v6⟩ := cSixty
  obtain ⟨fk, vk⟩ := cFour
  obtain ⟨hh, e4, f4, r4⟩ := add_ok q 4616189618054758400 f3 fk (by rw [vk]; grind) (by rw [vk]; grind)
  rw [vk] at r4
  have s4 := r4 8 (by grind) (by grind)
  rw [hu] at s4
  clear r4
  obtain ⟨h, e5, f5, r5⟩ := mul_ok hh 4633641066610819072 f4 f6 (by rw [v6]; grind) (by rw [v6]; grind)
  rw [v6] at r5
  have s5 := r5 500 (by grind) (by grind)
  rw [hu] at s5
  clear r5
  have hsl : ∃ sO sa, (∀ w, Calls Try.prog 50 #[.agg #[.float .f64 r], .agg #[.float .f64 g], .agg #[.float .f64 b]] w fun e w' => e = .returned (.tuple #[.agg #[.float .f64 h], .agg #[.float .f64 sO], .agg #[.float .f64 lO]]) ∧ Below w.heap.size w w') ∧ Ieee.double.div sO 4636737291354636288 = some sa ∧ Finite sa ∧ (val mx - val mn) / 2 - 1 / 100000000000 ≤ val (minW l' om') * val sa ∧ val (minW l' om') * val sa ≤ (val mx - val mn) / 2 + 1 / 100000000000 := by
    rcases hs with ⟨hq, hsm⟩ | ⟨hq, t, sat, sO, s', n1, n2, n3, n4, n5, n6, n7⟩
    · refine ⟨0, 0, fun w => hsl_blue0 r g b mx mn sm li d lO 0 w.heap.size w (Lib.hid rfl) (Lib.hid hmx) (Lib.hid hmn) (Lib.hid m1) (Lib.hid m2) (Lib.hid e1) (Lib.hid m3) (FL.flip li) om (minW li om) p q hh h (Lib.hid q5) (Lib.hid rfl) (Lib.hid m4) (Lib.hid rfl) (Lib.hid hq) (Lib.hid zero_hundred) (Lib.hid k1) (Lib.hid k2) (Lib.hid e2) (Lib.hid e3) (Lib.hid e4) (Lib.hid k7) (Lib.hid e5), zero_div_hundred, fin_zero, ?_⟩
      rw [val_zero, Rat.mul_zero]
      exact ⟨by grind, by grind⟩
    · exact ⟨sO, s', fun w => hsl_blue1 r g b mx mn sm li d lO sO w.heap.size w (Lib.hid rfl) (Lib.hid hmx) (Lib.hid hmn) (Lib.hid m1) (Lib.hid m2) (Lib.hid e1) (Lib.hid m3) (FL.flip li) om (minW li om) p q hh h t sat (Lib.hid q5) (Lib.hid rfl) (Lib.hid m4) (Lib.hid rfl) (Lib.hid hq) (Lib.hid n1) (Lib.hid n2) (Lib.hid n3) (Lib.hid k1) (Lib.hid k2) (Lib.hid e2) (Lib.hid e3) (Lib.hid e4) (Lib.hid k7) (Lib.hid e5), n4, n5, n6, n7⟩
  obtain ⟨sO, sa, hc, e7, f7, A1, A2⟩ := hsl
  clear hs
  rcases (by grind : 0 ≤ X ∨ X ≤ 0) with hX0 | hX0
  · have hm2 := hm.2 (by have := Rat.mul_nonneg hX0 (Rat.le_of_lt hD); grind)
    obtain ⟨z0, z8, z4, hb, w0, w8, w4⟩ := back16 h sO lO sa l' om' (X + 4) ((val mn + val mx) / 2) ((val mx - val mn) / 2) (1 - 2 * X) (1) (-1) f5 (by grind) (by grind) (by grind) (by grind) e7 f7 m5 fl' m6 fmi L1 L2 (by grind) (by grind) (by grind) (by grind) A1 A2 (by unfold Trap; grind) (by unfold Trap; grind) (by unfold Trap; grind)
    exact ⟨h, sO, lO, z0, z8, z4, ZZrgbToHSL_n011_142_any r g b h sO lO hc, hb, ⟨w0.1, by grind, by grind⟩, ⟨w8.1, by grind, by grind⟩, ⟨w4.1, by grind, by grind⟩⟩
  · have hm2 := hm.1 (by have := Rat.mul_nonneg (show 0 ≤ -X by grind) (Rat.le_of_lt hD); grind)
    obtain ⟨z0, z8, z4, hb, w0, w8, w4⟩ := back16 h sO lO sa l' om' (X + 4) ((val mn + val mx) / 2) ((val mx - val mn) / 2) (1) (1 + 2 * X) (-1) f5 (by grind) (by grind) (by grind) (by grind) e7 f7 m5 fl' m6 fmi L1 L2 (by grind) (by grind) (by grind) (by grind) A1 A2 (by unfold Trap; grind) (by unfold Trap; grind) (by unfold Trap; grind)
    exact ⟨h, sO, lO, z0, z8, z4, ZZrgbToHSL_n011_142_any r g b h sO lO hc, hb, ⟨w0.1, by grind, by grind⟩, ⟨w8.1, by grind, by grind⟩, ⟨w4.1, by grind, by grind⟩⟩
/-- every colour that is no gray -/
theorem round_all (r g b : Nat) (fr : Finite r) (fg : Finite g) (fb : Finite b) (r1 : 0 ≤ val r) (r2 : val r ≤ 1) (g1 : 0 ≤ val g) (g2 : val g ≤ 1) (b1 : 0 ≤ val b) (b2 : val b ≤ 1) (hne : ¬ (val r = val g ∧ val g = val b)) : Round16 r g b := by
  have M1 := max_ok fr fg
  have M2 := max_ok M1.1 fb
  have N1 := min_ok fr fg
  have N2 := min_ok N1.1 fb
  obtain ⟨mx, hmx⟩ : ∃ mx, maxW (maxW r g) b = mx := ⟨_, rfl⟩
  obtain ⟨mn, hmn⟩ : ∃ mn, minW (minW r g) b = mn := ⟨_, rfl⟩
  rw [hmx] at M2
  rw [hmn] at N2
  have vmx : val mx = val r ∨ val mx = val g ∨ val mx = val b := by
    rcases M2.2.2.2 with e | e <;> rw [e]
    · rcases M1.2.2.2 with e' | e' <;> rw [e'] <;> simp
    · simp
  have vmn : val mn = val r ∨ val mn = val g ∨ val mn = val b := by
    rcases N2.2.2.2 with e | e <;> rw [e]
    · rcases N1.2.2.2 with e' | e' <;> rw [e'] <;> simp
    · simp
  have R1 : val mn ≤ val r := by grind
  have R2 : val r ≤ val mx := by grind
  have G1 : val mn ≤ val g := by grind
  have G2 : val g ≤ val mx := by grind
  have B1 : val mn ≤ val b := by grind
  have B2 : val b ≤ val mx := by grind
  have h0 : 0 ≤ val mn := by grind
  have h1 : val mx ≤ 1 := by grind
  have hlt : val mn < val mx := by grind
  have fx := M2.1
  have fn := N2.1
  clear M1 M2 N1 N2
  by_cases hr : val mx = val r
  · have k1 : eqB mx r = true := by rw [eqB_ok fx fr]; exact decide_eq_true hr
    by_cases hgb : val g < val b
    · exact round_redb r g b fr fg fb mx mn hmx hmn fn fx h0 hlt h1 R1 R2 G1 G2 B1 B2 k1 (by rw [ltB_ok fg fb]; exact decide_eq_true hgb) hr (by grind) (by grind)
    · exact round_red r g b fr fg fb mx mn hmx hmn fn fx h0 hlt h1 R1 R2 G1 G2 B1 B2 k1 (by rw [ltB_ok fg fb]; exact decide_eq_false hgb) hr (by grind) (by grind)
  · have k1 : eqB mx r = false := by rw [eqB_ok fx fr]; exact decide_eq_false hr
    by_cases hg : val mx = val g
    · exact round_green r g b fr fg fb mx mn hmx hmn fn fx h0 hlt h1 R1 R2 G1 G2 B1 B2 k1 (by rw [eqB_ok fx fg]; exact decide_eq_true hg) hg ⟨by grind, by grind⟩
    · exact round_blue r g b fr fg fb mx mn hmx hmn fn fx h0 hlt h1 R1 R2 G1 G2 B1 B2 k1 (by rw [eqB_ok fx fg]; exact decide_eq_false hg) (by rw [eqB_ok fx fb]; exact decide_eq_true (by grind)) (by grind) ⟨by grind, by grind⟩
end Go.Proofs.Ytafeeebgleecfaa.Mat
