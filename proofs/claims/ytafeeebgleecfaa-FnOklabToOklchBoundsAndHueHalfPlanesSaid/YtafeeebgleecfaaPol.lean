/-
  oklab_to_oklch by its answer: lightness kept, chroma near, hue in its quadrant.
-/
import Derived.Test.YtafeeebgleecfaaAv
namespace Go.Proofs.Ytafeeebgleecfaa.Mat
open Go.ChangeShapes Go.WideShapes Go.ChangeAt Go.RowKit
open FL
set_option linter.unusedVariables false
theorem kDeg : Finite 4633260481411531256 ∧ 5729577951308 / 100000000000 ≤ val 4633260481411531256 ∧ val 4633260481411531256 ≤ 5729577951309 / 100000000000 := by refine ⟨?_, ?_, ?_⟩ <;> decide +kernel
theorem kPi : Finite 4614256656552045848 ∧ 314159265358979 / 100000000000000 ≤ val 4614256656552045848 ∧ val 4614256656552045848 ≤ 314159265358980 / 100000000000000 := by refine ⟨?_, ?_, ?_⟩ <;> decide +kernel
/-- the hue that an angle gives -/
def HueOf (an h : Nat) : Prop := ∃ h0, Ieee.double.mul an 4633260481411531256 = some h0 ∧ ((ltB h0 0 = false ∧ h = h0) ∨ (ltB h0 0 = true ∧ Ieee.double.add h0 4645040803167600640 = some h))
theorem hue_of (an : Nat) (fa : Finite an) (a1 : -32 / 10 ≤ val an) (a2 : val an ≤ 32 / 10) :
    ∃ h, HueOf an h ∧ Finite h ∧ (0 < val an → 0 < val h ∧ val an * val 4633260481411531256 - 1 / 100000000000 ≤ val h ∧ val h ≤ val an * val 4633260481411531256 + 1 / 100000000000) ∧ (val an = 0 → val h = 0) ∧ (val an < 0 → val h ≤ 360 ∧ 360 + val an * val 4633260481411531256 - 1 / 100000000000 ≤ val h ∧ val h ≤ 360 + val an * val 4633260481411531256 + 1 / 100000000000) := by
  obtain ⟨b22, b23⟩ := big1022
  have hu : u = 1 / 9007199254740992 := rfl
  have he := eta_nano
  have he0 := eta_pos
  obtain ⟨fd, d1, d2⟩ := kDeg
  obtain ⟨fc, vc⟩ := c360
  have hm := mul_le_abs (a := val 4633260481411531256) (b := val an) (M := 58) (by grind) (by grind) (by grind) (by grind)
  have hcm : val an * val 4633260481411531256 = val 4633260481411531256 * val an := Rat.mul_comm _ _
  obtain ⟨h0, e1, f1, r1⟩ := mul_ok an 4633260481411531256 fa fd (by grind) (by grind)
  have R1 : Rnd h0 (val an * val 4633260481411531256) := ⟨f1, r1⟩
  have s1 := r1 400 (by grind) (by grind)
  rw [hu] at s1
  clear r1
  have lt0 := ltB_ok f1 fin_zero
  rw [val_zero] at lt0
  rcases (by grind : 0 < val an ∨ val an = 0 ∨ val an < 0) with h | h | h
  · have hl := least_pos fa h
    rw [← eta_half] at hl
    have hp : val an * 57 ≤ val an * val 4633260481411531256 := Rat.mul_le_mul_of_nonneg_left (show (57 : Rat) ≤ val 4633260481411531256 by grind) (Rat.le_of_lt h)
    have s2 := (R1.2 (val an * val 4633260481411531256) (by grind) Rat.le_refl).1
    rw [hu] at s2
    have hpos : 0 < val h0 := by clear hm hcm s1; grind
    rw [decide_eq_false (by grind)] at lt0
    exact ⟨h0, ⟨h0, e1, .inl ⟨lt0, rfl⟩⟩, f1, fun _ => ⟨hpos, by grind, by grind⟩, fun h' => by grind, fun h' => by grind⟩
  · have hx : Exact (val an * val 4633260481411531256) := by rw [h, Rat.zero_mul]; exact exact_int 0 (by decide)
    obtain ⟨r, er, -, vr⟩ := mul_exact fa fd hx
    have : r = h0 := Option.some.inj (er.symm.trans e1)
    rw [this, h, Rat.zero_mul] at vr
    rw [decide_eq_false (by grind)] at lt0
    exact ⟨h0, ⟨h0, e1, .inl ⟨lt0, rfl⟩⟩, f1, fun h' => by grind, fun _ => vr, fun h' => by grind⟩
  · have hl := least_pos (flip_fin an fa) (by rw [flip_val an fa.1]; grind)
    rw [flip_val an fa.1, ← eta_half] at hl
    have hp : -val an * 57 ≤ -val an * val 4633260481411531256 := Rat.mul_le_mul_of_nonneg_left (show (57 : Rat) ≤ val 4633260481411531256 by grind) (by grind)
    have s2 := (R1.2 (-(val an * val 4633260481411531256)) (by grind) (by grind)).2
    rw [hu] at s2
    have hneg : val h0 < 0 := by clear hm hcm s1; grind
    rw [decide_eq_true hneg] at lt0
    obtain ⟨hp', e2, f2, r2⟩ := add_ok h0 4645040803167600640 f1 fc (by rw [vc]; grind) (by rw [vc]; grind)
    rw [vc] at r2
    have s3 := r2 400 (by grind) (by grind)
    rw [hu] at s3
    clear r2
    have hle : val hp' ≤ 360 := by
      obtain ⟨b, k, i, e, -, v⟩ := add_form f1 fc
      rw [vc] at v
      replace e := Option.some.inj (e2.symm.trans e)
      have hb := (form_bound (c := 360) (j := 0) v (by grind) (by grind) (by decide) (by decide)).1
      have z : ((360 : Nat) : Rat) * p2 0 = 360 := by rw [p2_zero, Rat.mul_one]; rfl
      rw [z, ← e] at hb
      exact hb (by grind)
    exact ⟨hp', ⟨h0, e1, .inr ⟨lt0, e2⟩⟩, f2, fun h' => by grind, fun h' => by grind, fun _ => ⟨hle, by grind, by grind⟩⟩
/-- the whole function over an angle -/
theorem okl_any (l a b an h a2 b2 s2 c : Nat) (hat : ∀ w, Calls Try.prog 105 #[.float .f64 b, .float .f64 a] w fun e w' => e = .returned (.float .f64 an) ∧ w = w') (hh : HueOf an h) (e1 : Ieee.double.mul a a = some a2) (e2 : Ieee.double.mul b b = some b2) (e3 : Ieee.double.add a2 b2 = some s2) (e4 : Ieee.double.sqrt s2 = some c) (w : World) :
    Calls Try.prog 38 #[.float .f64 l, .float .f64 a, .float .f64 b] w fun e w' => e = .returned (.tuple #[.float .f64 l, .float .f64 c, .float .f64 h]) ∧ Below w.heap.size w w' := by
  have HA := FAtan2_any b a an (Atan2_any b a an hat)
  obtain ⟨h0, m1, hc⟩ := hh
  refine ZZoklabToOklch_n011_191_any l a b l c h (fun w => okl_walk l a b l c h w.heap.size w (Lib.hid rfl) (Lib.hid (fun w => ?_))) w
  rcases hc with ⟨q, rfl⟩ | ⟨q, m2⟩
  · exact lch_pos l a b an h a2 b2 s2 c w.heap.size w (Lib.hid rfl) (Lib.hid HA) (Lib.hid m1) (Lib.hid q) (Lib.hid (FSquared_any a a2 e1)) (Lib.hid (FSquared_any b b2 e2)) (Lib.hid e3) (Lib.hid (FSqrt_any s2 c e4))
  · exact lch_neg l a b an h0 h a2 b2 s2 c w.heap.size w (Lib.hid rfl) (Lib.hid HA) (Lib.hid m1) (Lib.hid q) (Lib.hid m2) (Lib.hid (FSquared_any a a2 e1)) (Lib.hid (FSquared_any b b2 e2)) (Lib.hid e3) (Lib.hid (FSqrt_any s2 c e4))
end Go.Proofs.Ytafeeebgleecfaa.Mat
