/-
  rgb_to_hsl and rgb_to_hwb at the corners of a box of two levels.
-/
import Derived.Test.YtafeeebgleecfaaHsl
import Derived.Test.YtafeeebgleecfaaHsm
import Derived.Test.YtafeeebgleecfaaHwb
import Derived.Test.YtafeeebgleecfaaWrp
import Derived.Test.YtafeeebgleecfaaFLK
namespace Go.Proofs.Ytafeeebgleecfaa.Mat
open Go.ChangeShapes Go.WideShapes Go.ChangeAt Go.RowKit
open FL
set_option linter.unusedVariables false
/-- rgb_to_hsl answers so, in whatever world -/
def Hsl3 (r g b h s l : Nat) : Prop := ∀ w, Calls Try.prog 50 #[.agg #[.float .f64 r], .agg #[.float .f64 g], .agg #[.float .f64 b]] w fun e w' => e = .returned (.tuple #[.agg #[.float .f64 h], .agg #[.float .f64 s], .agg #[.float .f64 l]]) ∧ Below w.heap.size w w'
theorem zero_hundred : Ieee.double.mul 0 4636737291354636288 = some 0 := by decide +kernel

theorem hsl_gray' (r g b mx mn d : Nat) (B : Rat) (hB : 1000 * B < p2 1022) (hB1 : 1 ≤ B) (fl : Finite mn) (fh : Finite mx) (l1 : -B ≤ val mn) (l2 : val mn ≤ B) (h1 : -B ≤ val mx) (h2 : val mx ≤ B) (hmx : maxW (maxW r g) b = mx) (hmn : minW (minW r g) b = mn) (hd : Ieee.double.sub mx mn = some d) (hq5 : eqB d 0 = true) : ∃ s l, Hsl3 r g b 9221120237041090561 s l := by
  obtain ⟨sm, li, lO, nl, om, dv, d', e1, e2, e3, e4, e5, e6, e7, f7, -, hq⟩ := way38 mn mx fl fh B hB hB1 l1 l2 h1 h2
  obtain rfl : d' = d := Option.some.inj (e7.symm.trans hd)
  exact ⟨0, lO, fun w => hsl_gray r g b mx mn sm li d' lO 0 w.heap.size w (Lib.hid rfl) (Lib.hid hmx) (Lib.hid hmn) (Lib.hid e1) (Lib.hid e2) (Lib.hid hd) (Lib.hid e3) (Lib.hid zero_hundred) (Lib.hid hq5)⟩
theorem hsl_red (r g b mx mn d p q h0 h : Nat) (B : Rat) (hB : 1000 * B < p2 1022) (hB1 : 1 ≤ B) (fl : Finite mn) (fh : Finite mx) (l1 : -B ≤ val mn) (l2 : val mn ≤ B) (h1 : -B ≤ val mx) (h2 : val mx ≤ B) (hmx : maxW (maxW r g) b = mx) (hmn : minW (minW r g) b = mn) (hd : Ieee.double.sub mx mn = some d) (hq5 : eqB d 0 = false) (k1 : eqB mx r = true) (k2 : Ieee.double.sub g b = some p) (k3 : Ieee.double.div p d = some q) (k4 : ltB g b = false) (k5 : q = h0) (k6 : Ieee.double.mul q 4633641066610819072 = some h) : ∃ s l, Hsl3 r g b h s l := by
  obtain ⟨sm, li, lO, nl, om, dv, d', e1, e2, e3, e4, e5, e6, e7, f7, -, hq⟩ := way38 mn mx fl fh B hB hB1 l1 l2 h1 h2
  obtain rfl : d' = d := Option.some.inj (e7.symm.trans hd)
  rcases hq with hq | ⟨hq, t, sat, sO, e8, e9, e10⟩
  · exact ⟨0, lO, fun w => hsl_red0 r g b mx mn sm li d' lO 0 w.heap.size w (Lib.hid rfl) (Lib.hid hmx) (Lib.hid hmn) (Lib.hid e1) (Lib.hid e2) (Lib.hid hd) (Lib.hid e3) nl om dv p q h0 h (Lib.hid hq5) (Lib.hid e4) (Lib.hid e5) (Lib.hid e6) (Lib.hid hq) (Lib.hid zero_hundred) (Lib.hid k1) (Lib.hid k2) (Lib.hid k3) (Lib.hid k4) (Lib.hid k5) (Lib.hid k6)⟩
  · exact ⟨sO, lO, fun w => hsl_red1 r g b mx mn sm li d' lO sO w.heap.size w (Lib.hid rfl) (Lib.hid hmx) (Lib.hid hmn) (Lib.hid e1) (Lib.hid e2) (Lib.hid hd) (Lib.hid e3) nl om dv p q h0 h t sat (Lib.hid hq5) (Lib.hid e4) (Lib.hid e5) (Lib.hid e6) (Lib.hid hq) (Lib.hid e8) (Lib.hid e9) (Lib.hid e10) (Lib.hid k1) (Lib.hid k2) (Lib.hid k3) (Lib.hid k4) (Lib.hid k5) (Lib.hid k6)⟩
theorem hsl_redb (r g b mx mn d p q h0 h : Nat) (B : Rat) (hB : 1000 * B < p2 1022) (hB1 : 1 ≤ B) (fl : Finite mn) (fh : Finite mx) (l1 : -B ≤ val mn) (l2 : val mn ≤ B) (h1 : -B ≤ val mx) (h2 : val mx ≤ B) (hmx : maxW (maxW r g) b = mx) (hmn : minW (minW r g) b = mn) (hd : Ieee.double.sub mx mn = some d) (hq5 : eqB d 0 = false) (k1 : eqB mx r = true) (k2 : Ieee.double.sub g b = some p) (k3 : Ieee.double.div p d = some q) (k4 : ltB g b = true) (k5 : Ieee.double.add q 4618441417868443648 = some h0) (k6 : Ieee.double.mul h0 4633641066610819072 = some h) : ∃ s l, Hsl3 r g b h s l := by
  obtain ⟨sm, li, lO, nl, om, dv, d', e1, e2, e3, e4, e5, e6, e7, f7, -, hq⟩ := way38 mn mx fl fh B hB hB1 l1 l2 h1 h2
  obtain rfl : d' = d := Option.some.inj (e7.symm.trans hd)
  rcases hq with hq | ⟨hq, t, sat, sO, e8, e9, e10⟩
  · exact ⟨0, lO, fun w => hsl_redb0 r g b mx mn sm li d' lO 0 w.heap.size w (Lib.hid rfl) (Lib.hid hmx) (Lib.hid hmn) (Lib.hid e1) (Lib.hid e2) (Lib.hid hd) (Lib.hid e3) nl om dv p q h0 h (Lib.hid hq5) (Lib.hid e4) (Lib.hid e5) (Lib.hid e6) (Lib.hid hq) (Lib.hid zero_hundred) (Lib.hid k1) (Lib.hid k2) (Lib.hid k3) (Lib.hid k4) (Lib.hid k5) (Lib.hid k6)⟩
  · exact ⟨sO, lO, fun w => hsl_redb1 r g b mx mn sm li d' lO sO w.heap.size w (Lib.hid rfl) (Lib.hid hmx) (Lib.hid hmn) (Lib.hid e1) (Lib.hid e2) (Lib.hid hd) (Lib.hid e3) nl om dv p q h0 h t sat (Lib.hid hq5) (Lib.hid e4) (Lib.hid e5) (Lib.hid e6) (Lib.hid hq) (Lib.hid e8) (Lib.hid e9) (Lib.hid e10) (Lib.hid k1) (Lib.hid k2) (Lib.hid k3) (Lib.hid k4) (Lib.hid k5) (Lib.hid k6)⟩
theorem hsl_green (r g b mx mn d p q h0 h : Nat) (B : Rat) (hB : 1000 * B < p2 1022) (hB1 : 1 ≤ B) (fl : Finite mn) (fh : Finite mx) (l1 : -B ≤ val mn) (l2 : val mn ≤ B) (h1 : -B ≤ val mx) (h2 : val mx ≤ B) (hmx : maxW (maxW r g) b = mx) (hmn : minW (minW r g) b = mn) (hd : Ieee.double.sub mx mn = some d) (hq5 : eqB d 0 = false) (k1 : eqB mx r = false) (k2 : eqB mx g = true) (k3 : Ieee.double.sub b r = some p) (k4 : Ieee.double.div p d = some q) (k5 : Ieee.double.add q 4611686018427387904 = some h0) (k6 : Ieee.double.mul h0 4633641066610819072 = some h) : ∃ s l, Hsl3 r g b h s l := by
  obtain ⟨sm, li, lO, nl, om, dv, d', e1, e2, e3, e4, e5, e6, e7, f7, -, hq⟩ := way38 mn mx fl fh B hB hB1 l1 l2 h1 h2
  obtain rfl : d' = d := Option.some.inj (e7.symm.trans hd)
  rcases hq with hq | ⟨hq, t, sat, sO, e8, e9, e10⟩
  · exact ⟨0, lO, fun w => hsl_green0 r g b mx mn sm li d' lO 0 w.heap.size w (Lib.hid rfl) (Lib.hid hmx) (Lib.hid hmn) (Lib.hid e1) (Lib.hid e2) (Lib.hid hd) (Lib.hid e3) nl om dv p q h0 h (Lib.hid hq5) (Lib.hid e4) (Lib.hid e5) (Lib.hid e6) (Lib.hid hq) (Lib.hid zero_hundred) (Lib.hid k1) (Lib.hid k2) (Lib.hid k3) (Lib.hid k4) (Lib.hid k5) (Lib.hid k6)⟩
  · exact ⟨sO, lO, fun w => hsl_green1 r g b mx mn sm li d' lO sO w.heap.size w (Lib.hid rfl) (Lib.hid hmx) (Lib.hid hmn) (Lib.hid e1) (Lib.hid e2) (Lib.hid hd) (Lib.hid e3) nl om dv p q h0 h t sat (Lib.hid hq5) (Lib.hid e4) (Lib.hid e5) (Lib.hid e6) (Lib.hid hq) (Lib.hid e8) (Lib.hid e9) (Lib.hid e10) (Lib.hid k1) (Lib.hid k2) (Lib.hid k3) (Lib.hid k4) (Lib.hid k5) (Lib.hid k6)⟩
theorem hsl_blue (r g b mx mn d p q h0 h : Nat) (B : Rat) (hB : 1000 * B < p2 1022) (hB1 : 1 ≤ B) (fl : Finite mn) (fh : Finite mx) (l1 : -B ≤ val mn) (l2 : val mn ≤ B) (h1 : -B ≤ val mx) (h2 : val mx ≤ B) (hmx : maxW (maxW r g) b = mx) (hmn : minW (minW r g) b = mn) (hd : Ieee.double.sub mx mn = some d) (hq5 : eqB d 0 = false) (k1 : eqB mx r = false) (k2 : eqB mx g = false) (k3 : Ieee.double.sub r g = some p) (k4 : Ieee.double.div p d = some q) (k5 : Ieee.double.add q 4616189618054758400 = some h0) (k7 : eqB mx b = true) (k6 : Ieee.double.mul h0 4633641066610819072 = some h) : ∃ s l, Hsl3 r g b h s l := by
  obtain ⟨sm, li, lO, nl, om, dv, d', e1, e2, e3, e4, e5, e6, e7, f7, -, hq⟩ := way38 mn mx fl fh B hB hB1 l1 l2 h1 h2
  obtain rfl : d' = d := Option.some.inj (e7.symm.trans hd)
  rcases hq with hq | ⟨hq, t, sat, sO, e8, e9, e10⟩
  · exact ⟨0, lO, fun w => hsl_blue0 r g b mx mn sm li d' lO 0 w.heap.size w (Lib.hid rfl) (Lib.hid hmx) (Lib.hid hmn) (Lib.hid e1) (Lib.hid e2) (Lib.hid hd) (Lib.hid e3) nl om dv p q h0 h (Lib.hid hq5) (Lib.hid e4) (Lib.hid e5) (Lib.hid e6) (Lib.hid hq) (Lib.hid zero_hundred) (Lib.hid k1) (Lib.hid k2) (Lib.hid k3) (Lib.hid k4) (Lib.hid k5) (Lib.hid k7) (Lib.hid k6)⟩
  · exact ⟨sO, lO, fun w => hsl_blue1 r g b mx mn sm li d' lO sO w.heap.size w (Lib.hid rfl) (Lib.hid hmx) (Lib.hid hmn) (Lib.hid e1) (Lib.hid e2) (Lib.hid hd) (Lib.hid e3) nl om dv p q h0 h t sat (Lib.hid hq5) (Lib.hid e4) (Lib.hid e5) (Lib.hid e6) (Lib.hid hq) (Lib.hid e8) (Lib.hid e9) (Lib.hid e10) (Lib.hid k1) (Lib.hid k2) (Lib.hid k3) (Lib.hid k4) (Lib.hid k5) (Lib.hid k7) (Lib.hid k6)⟩
theorem max_self {x : Nat} (h : Finite x) : maxW x x = x := by rcases (max_ok h h).2.2.2 with e | e <;> exact e
theorem min_self {x : Nat} (h : Finite x) : minW x x = x := by rcases (min_ok h h).2.2.2 with e | e <;> exact e
theorem max_lh {lo hi : Nat} (fl : Finite lo) (fh : Finite hi) (h : val lo < val hi) : maxW lo hi = hi ∧ maxW hi lo = hi ∧ minW lo hi = lo ∧ minW hi lo = lo := by
  refine ⟨?_, ?_, ?_, ?_⟩
  · have m := max_ok fl fh
    rcases m.2.2.2 with e | e
    · rw [e] at m; grind
    · exact e
  · have m := max_ok fh fl
    rcases m.2.2.2 with e | e
    · exact e
    · rw [e] at m; grind
  · have m := min_ok fl fh
    rcases m.2.2.2 with e | e
    · exact e
    · rw [e] at m; grind
  · have m := min_ok fh fl
    rcases m.2.2.2 with e | e
    · rw [e] at m; grind
    · exact e
/-- what the law reckons beside: the whiteness and the blackness -/
theorem side38 (mn mx : Nat) (B : Rat) (hB : 1000 * B < p2 1022) (hB1 : 1 ≤ B) (fl : Finite mn) (fh : Finite mx) (l1 : -B ≤ val mn) (l2 : val mn ≤ B) (h1 : -B ≤ val mx) (h2 : val mx ≤ B) :
    ∃ nx bk wO bO x1 x2, FL.flip mx = nx ∧ Ieee.double.add nx 4607182418800017408 = some bk ∧ Ieee.double.mul mn 4636737291354636288 = some wO ∧ Ieee.double.mul bk 4636737291354636288 = some bO ∧ Ieee.double.sub 4607182418800017408 mx = some x1 ∧ Ieee.double.mul x1 4636737291354636288 = some x2 ∧ eqB wO wO = true ∧ eqB bO x2 = true := by
  have hB3 : 1000 * B < p2 1023 := by have := p2_1023; grind
  have hu : u = 1 / 9007199254740992 := rfl
  have he := eta_le
  have he0 := eta_pos
  obtain ⟨fo, vo⟩ := cOne
  obtain ⟨fc, vc⟩ := cHundred
  obtain ⟨bk, e1, f1, b1⟩ := add_ok (FL.flip mx) 4607182418800017408 (flip_fin mx fh) fo (by rw [flip_val mx fh.1, vo]; grind) (by rw [flip_val mx fh.1, vo]; grind)
  obtain ⟨x1, e2, f2, b2⟩ := sub_ok 4607182418800017408 mx fo fh (by rw [vo]; grind) (by rw [vo]; grind)
  rw [vo] at b2
  have c2 := b2 (2 * B) (by grind) (by grind)
  rw [hu] at c2
  have ev := sub_add_flip fo fh e2 e1
  obtain ⟨wO, e3, f3, -⟩ := mul_ok mn 4636737291354636288 fl fc (by rw [vc]; grind) (by rw [vc]; grind)
  obtain ⟨x2, e4, f4, -⟩ := mul_ok x1 4636737291354636288 f2 fc (by rw [vc]; grind) (by rw [vc]; grind)
  obtain ⟨bO, e5, f5, -⟩ := mul_ok bk 4636737291354636288 f1 fc (by rw [vc, ev]; grind) (by rw [vc, ev]; grind)
  refine ⟨_, bk, wO, bO, x1, x2, rfl, e1, e3, e5, e2, e4, ?_, ?_⟩
  · rw [eqB_ok f3 f3]; simp
  · rw [eqB_ok f5 f4, mul_congr f2 fc f1 fc e4 e5 (by rw [ev])]; simp
/-- rgb_to_hwb's wrapper over what rgb_to_hsl answers -/
theorem hwb_all (r g b mx mn h nx bk wO bO : Nat) (hh : ∃ s l, Hsl3 r g b h s l) (hmx : maxW (maxW r g) b = mx) (hmn : minW (minW r g) b = mn) (k1 : FL.flip mx = nx) (k2 : Ieee.double.add nx 4607182418800017408 = some bk) (k3 : Ieee.double.mul mn 4636737291354636288 = some wO) (k4 : Ieee.double.mul bk 4636737291354636288 = some bO) (w : World) :
    Calls Try.prog 31 #[.float .f64 r, .float .f64 g, .float .f64 b] w fun e w' => e = .returned (.tuple #[.float .f64 h, .float .f64 wO, .float .f64 bO]) ∧ Below w.heap.size w w' := by
  obtain ⟨s, l, hc⟩ := hh
  exact ZZrgbToHwb_n011_267_any r g b h wO bO (fun w => hwb_of r g b mx mn nx bk h s l wO bO w.heap.size w (Lib.hid rfl) (Lib.hid hc) (Lib.hid hmx) (Lib.hid hmn) (Lib.hid k1) (Lib.hid k2) (Lib.hid k3) (Lib.hid k4)) w
theorem corner0 (lo hi : Nat) (B : Rat) (hB : 1000 * B < p2 1022) (hB1 : 1 ≤ B) (fl : Finite lo) (fh : Finite hi) (l1 : -B ≤ val lo) (l2 : val lo ≤ B) (h1 : -B ≤ val hi) (h2 : val hi ≤ B) (hlt : val lo < val hi) :
    ∃ h wO bO x1 x2, (∀ w, Calls Try.prog 31 #[.float .f64 lo, .float .f64 lo, .float .f64 lo] w fun e w' => e = .returned (.tuple #[.float .f64 h, .float .f64 wO, .float .f64 bO]) ∧ Below w.heap.size w w') ∧ (eqB h h = false) ∧ Ieee.double.mul lo 4636737291354636288 = some wO ∧ Ieee.double.sub 4607182418800017408 lo = some x1 ∧ Ieee.double.mul x1 4636737291354636288 = some x2 ∧ eqB wO wO = true ∧ eqB bO x2 = true := by
  have hmx : maxW (maxW lo lo) lo = lo := by rw [max_self fl, max_self fl]
  have hmn : minW (minW lo lo) lo = lo := by rw [min_self fl, min_self fl]
  obtain ⟨nx, bk, wO, bO, x1, x2, k1, k2, k3, k4, k5, k6, k7, k8⟩ := side38 lo lo B hB hB1 fl fl l1 l2 l1 l2
  refine ⟨_, wO, bO, x1, x2, fun w => hwb_all lo lo lo lo lo 9221120237041090561 nx bk wO bO (hsl_gray' lo lo lo lo lo 0 B hB hB1 fl fl l1 l2 l1 l2 hmx hmn (sub_self_zero fl) (by decide +kernel)) hmx hmn k1 k2 k3 k4 w, by decide +kernel, k3, k5, k6, k7, k8⟩
theorem corner1 (lo hi : Nat) (B : Rat) (hB : 1000 * B < p2 1022) (hB1 : 1 ≤ B) (fl : Finite lo) (fh : Finite hi) (l1 : -B ≤ val lo) (l2 : val lo ≤ B) (h1 : -B ≤ val hi) (h2 : val hi ≤ B) (hlt : val lo < val hi) :
    ∃ h wO bO x1 x2, (∀ w, Calls Try.prog 31 #[.float .f64 lo, .float .f64 lo, .float .f64 hi] w fun e w' => e = .returned (.tuple #[.float .f64 h, .float .f64 wO, .float .f64 bO]) ∧ Below w.heap.size w w') ∧ (eqB h 4642648265865560064 = true) ∧ Ieee.double.mul lo 4636737291354636288 = some wO ∧ Ieee.double.sub 4607182418800017408 hi = some x1 ∧ Ieee.double.mul x1 4636737291354636288 = some x2 ∧ eqB wO wO = true ∧ eqB bO x2 = true := by
  obtain ⟨m1, m2, m3, m4⟩ := max_lh fl fh hlt
  have hmx : maxW (maxW lo lo) hi = hi := by rw [max_self fl, m1]
  have hmn : minW (minW lo lo) hi = lo := by rw [min_self fl, m3]
  obtain ⟨nx, bk, wO, bO, x1, x2, k1, k2, k3, k4, k5, k6, k7, k8⟩ := side38 lo hi B hB hB1 fl fh l1 l2 h1 h2
  obtain ⟨sm, li, lO, nl, om, dv, d, -, -, -, -, -, -, e7, f7, hd0, -⟩ := way38 lo hi fl fh B hB hB1 l1 l2 h1 h2
  have hd1 := hd0 hlt
  have hq5 : eqB d 0 = false := by rw [eqB_ok f7 fin_zero, val_zero]; simpa using hd1
  have hne : eqB hi lo = false := by rw [eqB_ok fh fl, decide_eq_false_iff_not]; grind
  have heq : eqB hi hi = true := by rw [eqB_ok fh fh]; simp
  have hp : Ieee.double.sub lo lo = some 0 := sub_self_zero fl
  have vp : val 0 = ((0 : Int) : Rat) * val d := by rw [val_zero]; have : ((0 : Int) : Rat) = 0 := rfl; rw [this]; grind
  obtain ⟨fk, vk⟩ := cFour
  obtain ⟨q, h0, h, e1, -, -, e3, e2, f2, v2⟩ := hue38 0 d 4616189618054758400 (0) 4 fin_zero f7 hd1 vp fk (by rw [vk]; rfl) (by decide) (by decide) (by decide) (by decide)
  have fw : Finite 4642648265865560064 := by decide +kernel
  have vw : val 4642648265865560064 = 240 := by decide +kernel
  refine ⟨h, wO, bO, x1, x2, fun w => hwb_all lo lo hi hi lo h nx bk wO bO (hsl_blue lo lo hi hi lo d 0 q h0 h B hB hB1 fl fh l1 l2 h1 h2 hmx hmn e7 hq5 hne hne hp e1 e3 heq e2) hmx hmn k1 k2 k3 k4 w, ?_, k3, k5, k6, k7, k8⟩
  rw [eqB_ok f2 fw, v2, vw]; decide +kernel
theorem corner2 (lo hi : Nat) (B : Rat) (hB : 1000 * B < p2 1022) (hB1 : 1 ≤ B) (fl : Finite lo) (fh : Finite hi) (l1 : -B ≤ val lo) (l2 : val lo ≤ B) (h1 : -B ≤ val hi) (h2 : val hi ≤ B) (hlt : val lo < val hi) :
    ∃ h wO bO x1 x2, (∀ w, Calls Try.prog 31 #[.float .f64 lo, .float .f64 hi, .float .f64 lo] w fun e w' => e = .returned (.tuple #[.float .f64 h, .float .f64 wO, .float .f64 bO]) ∧ Below w.heap.size w w') ∧ (eqB h 4638144666238189568 = true) ∧ Ieee.double.mul lo 4636737291354636288 = some wO ∧ Ieee.double.sub 4607182418800017408 hi = some x1 ∧ Ieee.double.mul x1 4636737291354636288 = some x2 ∧ eqB wO wO = true ∧ eqB bO x2 = true := by
  obtain ⟨m1, m2, m3, m4⟩ := max_lh fl fh hlt
  have hmx : maxW (maxW lo hi) lo = hi := by rw [m1, m2]
  have hmn : minW (minW lo hi) lo = lo := by rw [m3, min_self fl]
  obtain ⟨nx, bk, wO, bO, x1, x2, k1, k2, k3, k4, k5, k6, k7, k8⟩ := side38 lo hi B hB hB1 fl fh l1 l2 h1 h2
  obtain ⟨sm, li, lO, nl, om, dv, d, -, -, -, -, -, -, e7, f7, hd0, -⟩ := way38 lo hi fl fh B hB hB1 l1 l2 h1 h2
  have hd1 := hd0 hlt
  have hq5 : eqB d 0 = false := by rw [eqB_ok f7 fin_zero, val_zero]; simpa using hd1
  have hne : eqB hi lo = false := by rw [eqB_ok fh fl, decide_eq_false_iff_not]; grind
  have heq : eqB hi hi = true := by rw [eqB_ok fh fh]; simp
  have hp : Ieee.double.sub lo lo = some 0 := sub_self_zero fl
  have vp : val 0 = ((0 : Int) : Rat) * val d := by rw [val_zero]; have : ((0 : Int) : Rat) = 0 := rfl; rw [this]; grind
  obtain ⟨fk, vk⟩ := cTwo
  obtain ⟨q, h0, h, e1, -, -, e3, e2, f2, v2⟩ := hue38 0 d 4611686018427387904 (0) 2 fin_zero f7 hd1 vp fk (by rw [vk]; rfl) (by decide) (by decide) (by decide) (by decide)
  have fw : Finite 4638144666238189568 := by decide +kernel
  have vw : val 4638144666238189568 = 120 := by decide +kernel
  refine ⟨h, wO, bO, x1, x2, fun w => hwb_all lo hi lo hi lo h nx bk wO bO (hsl_green lo hi lo hi lo d 0 q h0 h B hB hB1 fl fh l1 l2 h1 h2 hmx hmn e7 hq5 hne heq hp e1 e3 e2) hmx hmn k1 k2 k3 k4 w, ?_, k3, k5, k6, k7, k8⟩
  rw [eqB_ok f2 fw, v2, vw]; decide +kernel
theorem corner3 (lo hi : Nat) (B : Rat) (hB : 1000 * B < p2 1022) (hB1 : 1 ≤ B) (fl : Finite lo) (fh : Finite hi) (l1 : -B ≤ val lo) (l2 : val lo ≤ B) (h1 : -B ≤ val hi) (h2 : val hi ≤ B) (hlt : val lo < val hi) :
    ∃ h wO bO x1 x2, (∀ w, Calls Try.prog 31 #[.float .f64 lo, .float .f64 hi, .float .f64 hi] w fun e w' => e = .returned (.tuple #[.float .f64 h, .float .f64 wO, .float .f64 bO]) ∧ Below w.heap.size w w') ∧ (eqB h 4640537203540230144 = true) ∧ Ieee.double.mul lo 4636737291354636288 = some wO ∧ Ieee.double.sub 4607182418800017408 hi = some x1 ∧ Ieee.double.mul x1 4636737291354636288 = some x2 ∧ eqB wO wO = true ∧ eqB bO x2 = true := by
  obtain ⟨m1, m2, m3, m4⟩ := max_lh fl fh hlt
  have hmx : maxW (maxW lo hi) hi = hi := by rw [m1, max_self fh]
  have hmn : minW (minW lo hi) hi = lo := by rw [m3, m3]
  obtain ⟨nx, bk, wO, bO, x1, x2, k1, k2, k3, k4, k5, k6, k7, k8⟩ := side38 lo hi B hB hB1 fl fh l1 l2 h1 h2
  obtain ⟨sm, li, lO, nl, om, dv, d, -, -, -, -, -, -, e7, f7, hd0, -⟩ := way38 lo hi fl fh B hB hB1 l1 l2 h1 h2
  have hd1 := hd0 hlt
  have hq5 : eqB d 0 = false := by rw [eqB_ok f7 fin_zero, val_zero]; simpa using hd1
  have hne : eqB hi lo = false := by rw [eqB_ok fh fl, decide_eq_false_iff_not]; grind
  have heq : eqB hi hi = true := by rw [eqB_ok fh fh]; simp
  have hp := e7
  have vp : val d = ((1 : Int) : Rat) * val d := by have : ((1 : Int) : Rat) = 1 := rfl; rw [this]; grind
  obtain ⟨fk, vk⟩ := cTwo
  obtain ⟨q, h0, h, e1, -, -, e3, e2, f2, v2⟩ := hue38 d d 4611686018427387904 (1) 2 f7 f7 hd1 vp fk (by rw [vk]; rfl) (by decide) (by decide) (by decide) (by decide)
  have fw : Finite 4640537203540230144 := by decide +kernel
  have vw : val 4640537203540230144 = 180 := by decide +kernel
  refine ⟨h, wO, bO, x1, x2, fun w => hwb_all lo hi hi hi lo h nx bk wO bO (hsl_green lo hi hi hi lo d d q h0 h B hB hB1 fl fh l1 l2 h1 h2 hmx hmn e7 hq5 hne heq hp e1 e3 e2) hmx hmn k1 k2 k3 k4 w, ?_, k3, k5, k6, k7, k8⟩
  rw [eqB_ok f2 fw, v2, vw]; decide +kernel
theorem corner4 (lo hi : Nat) (B : Rat) (hB : 1000 * B < p2 1022) (hB1 : 1 ≤ B) (fl : Finite lo) (fh : Finite hi) (l1 : -B ≤ val lo) (l2 : val lo ≤ B) (h1 : -B ≤ val hi) (h2 : val hi ≤ B) (hlt : val lo < val hi) :
    ∃ h wO bO x1 x2, (∀ w, Calls Try.prog 31 #[.float .f64 hi, .float .f64 lo, .float .f64 lo] w fun e w' => e = .returned (.tuple #[.float .f64 h, .float .f64 wO, .float .f64 bO]) ∧ Below w.heap.size w w') ∧ (eqB h 0 = true) ∧ Ieee.double.mul lo 4636737291354636288 = some wO ∧ Ieee.double.sub 4607182418800017408 hi = some x1 ∧ Ieee.double.mul x1 4636737291354636288 = some x2 ∧ eqB wO wO = true ∧ eqB bO x2 = true := by
  obtain ⟨m1, m2, m3, m4⟩ := max_lh fl fh hlt
  have hmx : maxW (maxW hi lo) lo = hi := by rw [m2, m2]
  have hmn : minW (minW hi lo) lo = lo := by rw [m4, min_self fl]
  obtain ⟨nx, bk, wO, bO, x1, x2, k1, k2, k3, k4, k5, k6, k7, k8⟩ := side38 lo hi B hB hB1 fl fh l1 l2 h1 h2
  obtain ⟨sm, li, lO, nl, om, dv, d, -, -, -, -, -, -, e7, f7, hd0, -⟩ := way38 lo hi fl fh B hB hB1 l1 l2 h1 h2
  have hd1 := hd0 hlt
  have hq5 : eqB d 0 = false := by rw [eqB_ok f7 fin_zero, val_zero]; simpa using hd1
  have hne : eqB hi lo = false := by rw [eqB_ok fh fl, decide_eq_false_iff_not]; grind
  have heq : eqB hi hi = true := by rw [eqB_ok fh fh]; simp
  have hp : Ieee.double.sub lo lo = some 0 := sub_self_zero fl
  have vp : val 0 = ((0 : Int) : Rat) * val d := by rw [val_zero]; have : ((0 : Int) : Rat) = 0 := rfl; rw [this]; grind
  have hlt2 : ltB lo lo = false := by rw [ltB_ok fl fl, decide_eq_false_iff_not]; grind
  obtain ⟨q, h, e1, e2, f2, v2⟩ := hue38z 0 d 0 fin_zero f7 hd1 vp (by decide) (by decide)
  have fw : Finite 0 := by decide +kernel
  have vw : val 0 = 0 := by decide +kernel
  refine ⟨h, wO, bO, x1, x2, fun w => hwb_all hi lo lo hi lo h nx bk wO bO (hsl_red hi lo lo hi lo d 0 q q h B hB hB1 fl fh l1 l2 h1 h2 hmx hmn e7 hq5 heq hp e1 hlt2 rfl e2) hmx hmn k1 k2 k3 k4 w, ?_, k3, k5, k6, k7, k8⟩
  rw [eqB_ok f2 fw, v2, vw]; decide +kernel
theorem corner5 (lo hi : Nat) (B : Rat) (hB : 1000 * B < p2 1022) (hB1 : 1 ≤ B) (fl : Finite lo) (fh : Finite hi) (l1 : -B ≤ val lo) (l2 : val lo ≤ B) (h1 : -B ≤ val hi) (h2 : val hi ≤ B) (hlt : val lo < val hi) :
    ∃ h wO bO x1 x2, (∀ w, Calls Try.prog 31 #[.float .f64 hi, .float .f64 lo, .float .f64 hi] w fun e w' => e = .returned (.tuple #[.float .f64 h, .float .f64 wO, .float .f64 bO]) ∧ Below w.heap.size w w') ∧ (eqB h 4643985272004935680 = true) ∧ Ieee.double.mul lo 4636737291354636288 = some wO ∧ Ieee.double.sub 4607182418800017408 hi = some x1 ∧ Ieee.double.mul x1 4636737291354636288 = some x2 ∧ eqB wO wO = true ∧ eqB bO x2 = true := by
  obtain ⟨m1, m2, m3, m4⟩ := max_lh fl fh hlt
  have hmx : maxW (maxW hi lo) hi = hi := by rw [m2, max_self fh]
  have hmn : minW (minW hi lo) hi = lo := by rw [m4, m3]
  obtain ⟨nx, bk, wO, bO, x1, x2, k1, k2, k3, k4, k5, k6, k7, k8⟩ := side38 lo hi B hB hB1 fl fh l1 l2 h1 h2
  obtain ⟨sm, li, lO, nl, om, dv, d, -, -, -, -, -, -, e7, f7, hd0, -⟩ := way38 lo hi fl fh B hB hB1 l1 l2 h1 h2
  have hd1 := hd0 hlt
  have hq5 : eqB d 0 = false := by rw [eqB_ok f7 fin_zero, val_zero]; simpa using hd1
  have hne : eqB hi lo = false := by rw [eqB_ok fh fl, decide_eq_false_iff_not]; grind
  have heq : eqB hi hi = true := by rw [eqB_ok fh fh]; simp
  have hB3 : 1000 * B < p2 1023 := by have := p2_1023; grind
  obtain ⟨p, hp, fp, -⟩ := sub_ok lo hi fl fh (by grind) (by grind)
  have vp : val p = ((-1 : Int) : Rat) * val d := by rw [sub_neg fh fl fl fh e7 hp (by grind)]; have : ((-1 : Int) : Rat) = -1 := rfl; rw [this]; grind
  obtain ⟨fk, vk⟩ := cSix
  obtain ⟨q, h0, h, e1, -, -, e3, e2, f2, v2⟩ := hue38 p d 4618441417868443648 (-1) 6 fp f7 hd1 vp fk (by rw [vk]; rfl) (by decide) (by decide) (by decide) (by decide)
  have hlt2 : ltB lo hi = true := by rw [ltB_ok fl fh]; simpa using hlt
  have fw : Finite 4643985272004935680 := by decide +kernel
  have vw : val 4643985272004935680 = 300 := by decide +kernel
  refine ⟨h, wO, bO, x1, x2, fun w => hwb_all hi lo hi hi lo h nx bk wO bO (hsl_redb hi lo hi hi lo d p q h0 h B hB hB1 fl fh l1 l2 h1 h2 hmx hmn e7 hq5 heq hp e1 hlt2 e3 e2) hmx hmn k1 k2 k3 k4 w, ?_, k3, k5, k6, k7, k8⟩
  rw [eqB_ok f2 fw, v2, vw]; decide +kernel
theorem corner6 (lo hi : Nat) (B : Rat) (hB : 1000 * B < p2 1022) (hB1 : 1 ≤ B) (fl : Finite lo) (fh : Finite hi) (l1 : -B ≤ val lo) (l2 : val lo ≤ B) (h1 : -B ≤ val hi) (h2 : val hi ≤ B) (hlt : val lo < val hi) :
    ∃ h wO bO x1 x2, (∀ w, Calls Try.prog 31 #[.float .f64 hi, .float .f64 hi, .float .f64 lo] w fun e w' => e = .returned (.tuple #[.float .f64 h, .float .f64 wO, .float .f64 bO]) ∧ Below w.heap.size w w') ∧ (eqB h 4633641066610819072 = true) ∧ Ieee.double.mul lo 4636737291354636288 = some wO ∧ Ieee.double.sub 4607182418800017408 hi = some x1 ∧ Ieee.double.mul x1 4636737291354636288 = some x2 ∧ eqB wO wO = true ∧ eqB bO x2 = true := by
  obtain ⟨m1, m2, m3, m4⟩ := max_lh fl fh hlt
  have hmx : maxW (maxW hi hi) lo = hi := by rw [max_self fh, m2]
  have hmn : minW (minW hi hi) lo = lo := by rw [min_self fh, m4]
  obtain ⟨nx, bk, wO, bO, x1, x2, k1, k2, k3, k4, k5, k6, k7, k8⟩ := side38 lo hi B hB hB1 fl fh l1 l2 h1 h2
  obtain ⟨sm, li, lO, nl, om, dv, d, -, -, -, -, -, -, e7, f7, hd0, -⟩ := way38 lo hi fl fh B hB hB1 l1 l2 h1 h2
  have hd1 := hd0 hlt
  have hq5 : eqB d 0 = false := by rw [eqB_ok f7 fin_zero, val_zero]; simpa using hd1
  have hne : eqB hi lo = false := by rw [eqB_ok fh fl, decide_eq_false_iff_not]; grind
  have heq : eqB hi hi = true := by rw [eqB_ok fh fh]; simp
  have hp := e7
  have vp : val d = ((1 : Int) : Rat) * val d := by have : ((1 : Int) : Rat) = 1 := rfl; rw [this]; grind
  have hlt2 : ltB hi lo = false := by rw [ltB_ok fh fl, decide_eq_false_iff_not]; grind
  obtain ⟨q, h, e1, e2, f2, v2⟩ := hue38z d d 1 f7 f7 hd1 vp (by decide) (by decide)
  have fw : Finite 4633641066610819072 := by decide +kernel
  have vw : val 4633641066610819072 = 60 := by decide +kernel
  refine ⟨h, wO, bO, x1, x2, fun w => hwb_all hi hi lo hi lo h nx bk wO bO (hsl_red hi hi lo hi lo d d q q h B hB hB1 fl fh l1 l2 h1 h2 hmx hmn e7 hq5 heq hp e1 hlt2 rfl e2) hmx hmn k1 k2 k3 k4 w, ?_, k3, k5, k6, k7, k8⟩
  rw [eqB_ok f2 fw, v2, vw]; decide +kernel
theorem corner7 (lo hi : Nat) (B : Rat) (hB : 1000 * B < p2 1022) (hB1 : 1 ≤ B) (fl : Finite lo) (fh : Finite hi) (l1 : -B ≤ val lo) (l2 : val lo ≤ B) (h1 : -B ≤ val hi) (h2 : val hi ≤ B) (hlt : val lo < val hi) :
    ∃ h wO bO x1 x2, (∀ w, Calls Try.prog 31 #[.float .f64 hi, .float .f64 hi, .float .f64 hi] w fun e w' => e = .returned (.tuple #[.float .f64 h, .float .f64 wO, .float .f64 bO]) ∧ Below w.heap.size w w') ∧ (eqB h h = false) ∧ Ieee.double.mul hi 4636737291354636288 = some wO ∧ Ieee.double.sub 4607182418800017408 hi = some x1 ∧ Ieee.double.mul x1 4636737291354636288 = some x2 ∧ eqB wO wO = true ∧ eqB bO x2 = true := by
  have hmx : maxW (maxW hi hi) hi = hi := by rw [max_self fh, max_self fh]
  have hmn : minW (minW hi hi) hi = hi := by rw [min_self fh, min_self fh]
  obtain ⟨nx, bk, wO, bO, x1, x2, k1, k2, k3, k4, k5, k6, k7, k8⟩ := side38 hi hi B hB hB1 fh fh h1 h2 h1 h2
  refine ⟨_, wO, bO, x1, x2, fun w => hwb_all hi hi hi hi hi 9221120237041090561 nx bk wO bO (hsl_gray' hi hi hi hi hi 0 B hB hB1 fh fh h1 h2 h1 h2 hmx hmn (sub_self_zero fh) (by decide +kernel)) hmx hmn k1 k2 k3 k4 w, by decide +kernel, k3, k5, k6, k7, k8⟩
end Go.Proofs.Ytafeeebgleecfaa.Mat
