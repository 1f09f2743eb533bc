/-
  Plain facts on IEEE double words, continued: differences that are opposite or equal; products and quotients that need not be finite; the corner's numbers.
-/
import Derived.Test.YtafeeebgleecfaaFLH
import Derived.Test.YtafeeebgleecfaaFLI
namespace FL
open Ieee
set_option linter.unusedVariables false
theorem sub_neg {x y x' y' r r' : Nat} (hx : Finite x) (hy : Finite y) (hx' : Finite x') (hy' : Finite y') (h : double.sub x y = some r) (h' : double.sub x' y' = some r') (hs : val x' - val y' = -(val x - val y)) : val r' = - val r := by
  obtain ⟨b, k, i, e, -, v⟩ := sub_form hx hy
  obtain ⟨b', k', i', e', -, v'⟩ := sub_form hx' hy'
  replace e := Option.some.inj (h.symm.trans e)
  replace e' := Option.some.inj (h'.symm.trans e')
  rw [e, e', ← nearest_neg]
  apply nearest_congr
  rw [← v', hs, v, sg_not]; grind
/-- '1 - x' and '-x + 1' are worth the same -/
theorem sub_add_flip {x y r r' : Nat} (hx : Finite x) (hy : Finite y) (h : double.sub x y = some r) (h' : double.add (flip y) x = some r') : val r' = val r := by
  obtain ⟨b, k, i, e, -, v⟩ := sub_form hx hy
  obtain ⟨b', k', i', e', -, v'⟩ := add_form (flip_fin y hy) hx
  replace e := Option.some.inj (h.symm.trans e)
  replace e' := Option.some.inj (h'.symm.trans e')
  rw [e, e']
  apply nearest_congr
  rw [← v', ← v, flip_val y hy.1]; grind
theorem mul_congr {x y x' y' r r' : Nat} (hx : Finite x) (hy : Finite y) (hx' : Finite x') (hy' : Finite y') (h : double.mul x y = some r) (h' : double.mul x' y' = some r') (hs : val x' * val y' = val x * val y) : val r' = val r := by
  obtain ⟨b, k, i, e, v⟩ := mul_form hx hy
  obtain ⟨b', k', i', e', v'⟩ := mul_form hx' hy'
  replace e := Option.some.inj (h.symm.trans e)
  replace e' := Option.some.inj (h'.symm.trans e')
  rw [e, e']
  apply nearest_congr
  rw [← v', ← v, hs]
theorem mul_good_const {x y : Nat} (hx : Good x) (hy : Finite y) (h0 : val y ≠ 0) : ∃ r, double.mul x y = some r := by
  rcases hx with hx | hx
  · obtain ⟨r, h, -⟩ := mul_fin_good hx hy
    exact ⟨r, h⟩
  · obtain ⟨t, n, j, hr', hn, hj, hj2⟩ := read_fin y hy
    have hn0 := nz_of_val hr' h0
    have hr := read_inf x hx.2
    refine ⟨double.write (.infinity ((x / 2 ^ 63 % 2 == 1) ^^ t)), ?_⟩
    simp only [Format.mul, hr, hr', Datum.product, hn0, if_false, Option.map_some]
theorem RndS.nz {r : Nat} {v : Rat} (h : RndS r v) (hv : v ≠ 0) : val r ≠ 0 := by
  intro e
  obtain ⟨-, hb⟩ := h
  have hu : u = 1 / 9007199254740992 := rfl
  rcases (by grind : 0 < v ∨ v < 0) with h1 | h1
  · have := hb v (by grind) Rat.le_refl
    rw [e, hu] at this; grind
  · have := hb (-v) (by grind) (by grind)
    rw [e, hu] at this; grind
theorem cHundred : Finite 4636737291354636288 ∧ val 4636737291354636288 = 100 := by constructor <;> decide +kernel
theorem cTwo : Finite 4611686018427387904 ∧ val 4611686018427387904 = 2 := by constructor <;> decide +kernel
theorem cOne : Finite 4607182418800017408 ∧ val 4607182418800017408 = 1 := by constructor <;> decide +kernel
theorem cFour : Finite 4616189618054758400 ∧ val 4616189618054758400 = 4 := by constructor <;> decide +kernel
theorem cSix : Finite 4618441417868443648 ∧ val 4618441417868443648 = 6 := by constructor <;> decide +kernel
theorem cSixty : Finite 4633641066610819072 ∧ val 4633641066610819072 = 60 := by constructor <;> decide +kernel
theorem cBig : Finite 9094988921128908188 ∧ val 9094988921128908188 ≤ p2 1000 := by constructor <;> decide +kernel
theorem p2_1000 : 1000 * p2 1000 < p2 1022 ∧ 1 ≤ p2 1000 := by
  have h1 : p2 1022 = p2 1000 * p2 22 := by rw [← p2_add]; rfl
  have h2 : p2 22 = 4194304 := by decide +kernel
  have h3 : p2 0 ≤ p2 1000 := p2_le (by decide)
  have h4 := p2_pos 1000
  rw [p2_zero] at h3
  rw [h1, h2]
  exact ⟨by grind, h3⟩
theorem p2_1023 : p2 1022 < p2 1023 := by
  have h := half_p2 1023
  have h4 := p2_pos 1022
  rw [h]; show p2 1022 < 2 * p2 (1023 - 1)
  have : (1023 - 1 : Int) = 1022 := rfl
  rw [this]; grind
/-- what rgb_to_hsl reckons on its way at a greatest number 'hi' and a least one 'lo', apart -/
theorem way38 (lo hi : Nat) (fl : Finite lo) (fh : Finite hi) (B : Rat) (hB : 1000 * B < p2 1022) (hB1 : 1 ≤ B) (l1 : -B ≤ val lo) (l2 : val lo ≤ B) (h1 : -B ≤ val hi) (h2 : val hi ≤ B) :
    ∃ sm li lO nl om dv d, double.add lo hi = some sm ∧ double.div sm 4611686018427387904 = some li ∧ double.mul li 4636737291354636288 = some lO ∧ FL.flip li = nl ∧ double.add nl 4607182418800017408 = some om ∧ minW li om = dv ∧ double.sub hi lo = some d ∧ Finite d ∧ (val lo < val hi → val d ≠ 0) ∧
      (eqB dv 0 = true ∨ (eqB dv 0 = false ∧ ∃ t sat sO, double.sub hi li = some t ∧ double.div t dv = some sat ∧ double.mul sat 4636737291354636288 = some sO)) := by
  have hB3 : 1000 * B < p2 1023 := by have := p2_1023; grind
  have hu : u = 1 / 9007199254740992 := rfl
  have he := eta_le
  have he0 := eta_pos
  obtain ⟨sm, e1, f1, b1⟩ := add_ok lo hi fl fh (by grind) (by grind)
  have c1 := b1 (2 * B) (by grind) (by grind)
  rw [hu] at c1
  obtain ⟨fc, vc⟩ := cTwo
  obtain ⟨li, e2, f2, b2⟩ := div_ok sm 4611686018427387904 f1 fc (by rw [vc]; decide +kernel) (val sm / 2) (by rw [vc]; grind) (by grind) (by grind)
  have c2 := b2 (3 * B) (by grind) (by grind)
  rw [hu] at c2
  obtain ⟨fd, vd⟩ := cHundred
  obtain ⟨lO, e3, -⟩ := mul_fin_good f2 fd
  obtain ⟨fo, vo⟩ := cOne
  obtain ⟨om, e5, f5, b5⟩ := add_ok (FL.flip li) 4607182418800017408 (flip_fin li f2) fo (by rw [flip_val li f2.1, vo]; grind) (by rw [flip_val li f2.1, vo]; grind)
  have m6 := min_ok f2 f5
  obtain ⟨d, e7, g7⟩ := sub_ok hi lo fh fl (by grind) (by grind)
  refine ⟨sm, li, lO, FL.flip li, om, minW li om, d, e1, e2, e3, rfl, e5, rfl, e7, g7.1, fun hlt => g7.nz (by grind), ?_⟩
  cases hq : eqB (minW li om) 0 with
  | true => exact .inl rfl
  | false =>
    right
    refine ⟨rfl, ?_⟩
    rw [eqB_ok m6.1 fin_zero, val_zero, decide_eq_false_iff_not] at hq
    obtain ⟨t, e8, f8, -⟩ := sub_ok hi li fh f2 (by grind) (by grind)
    obtain ⟨sat, e9, g9⟩ := div_good f8 m6.1 hq
    obtain ⟨sO, e10⟩ := mul_good_const g9 fd (by rw [vd]; decide +kernel)
    exact ⟨t, sat, sO, e8, e9, e10⟩
/-- the hue's last steps: a quotient 'c', a whole number added, sixty times -/
theorem hue38 (p d k : Nat) (c kv : Int) (fp : Finite p) (fd : Finite d) (hd : val d ≠ 0) (hp : val p = c * val d) (fk : Finite k) (vk : val k = kv) (hc1 : -10 ≤ c) (hc2 : c ≤ 10) (hk1 : -10 ≤ kv) (hk2 : kv ≤ 10) :
    ∃ q h0 h, double.div p d = some q ∧ Finite q ∧ val q = c ∧ double.add q k = some h0 ∧ double.mul h0 4633641066610819072 = some h ∧ Finite h ∧ val h = ((60 * (c + kv) : Int) : Rat) := by
  obtain ⟨q, e1, f1, v1⟩ := div_exact fp fd hd (c : Rat) hp.symm (exact_int c (by omega))
  obtain ⟨h0, e2, f2, v2⟩ := add_exact f1 fk (by rw [v1, vk, ← Rat.intCast_add]; exact exact_int _ (by omega))
  rw [v1, vk, ← Rat.intCast_add] at v2
  obtain ⟨fs, vs⟩ := cSixty
  have e60 : (60 : Rat) = ((60 : Int) : Rat) := rfl
  obtain ⟨h, e3, f3, v3⟩ := mul_exact f2 fs (by rw [v2, vs, e60, ← Rat.intCast_mul]; exact exact_int _ (by omega))
  refine ⟨q, h0, h, e1, f1, v1, e2, e3, f3, ?_⟩
  rw [v3, v2, vs, e60, ← Rat.intCast_mul, Int.mul_comm]
theorem hue38z (p d : Nat) (c : Int) (fp : Finite p) (fd : Finite d) (hd : val d ≠ 0) (hp : val p = c * val d) (hc1 : -10 ≤ c) (hc2 : c ≤ 10) :
    ∃ q h, double.div p d = some q ∧ double.mul q 4633641066610819072 = some h ∧ Finite h ∧ val h = ((60 * c : Int) : Rat) := by
  obtain ⟨q, e1, f1, v1⟩ := div_exact fp fd hd (c : Rat) hp.symm (exact_int c (by omega))
  obtain ⟨fs, vs⟩ := cSixty
  have e60 : (60 : Rat) = ((60 : Int) : Rat) := rfl
  obtain ⟨h, e3, f3, v3⟩ := mul_exact f1 fs (by rw [v1, vs, e60, ← Rat.intCast_mul]; exact exact_int _ (by omega))
  refine ⟨q, h, e1, e3, f3, ?_⟩
  rw [v3, v1, vs, e60, ← Rat.intCast_mul, Int.mul_comm]
end FL
