/-
  Plain facts on IEEE double words, continued: light and saturation of a colour, there and back; the hue's quotient.
-/
import Derived.Test.YtafeeebgleecfaaFLP
namespace FL
open Ieee
set_option linter.unusedVariables false
theorem eta_nano : eta ≤ 1 / 100000000000000000000 := by
  have h : p2 (-1075) ≤ p2 (-70) := p2_le (by decide)
  have e : p2 (-70) = 1 / 1180591620717411303424 := by decide +kernel
  unfold eta
  rw [e] at h
  grind
theorem zero_div_hundred : double.div 0 4636737291354636288 = some 0 := by decide +kernel
theorem mul_le_abs {a b M : Rat} (h1 : -M ≤ a) (h2 : a ≤ M) (b1 : -6 ≤ b) (b2 : b ≤ 6) : -(6 * M) ≤ a * b ∧ a * b ≤ 6 * M := by
  have hM : 0 ≤ M := by grind
  rcases (by grind : 0 ≤ b ∨ b ≤ 0) with h | h
  · have q1 := Rat.mul_le_mul_of_nonneg_right h1 h
    have q2 := Rat.mul_le_mul_of_nonneg_right h2 h
    have q3 := Rat.mul_le_mul_of_nonneg_left b2 hM
    exact ⟨by grind, by grind⟩
  · have h' : 0 ≤ -b := by grind
    have q1 := Rat.mul_le_mul_of_nonneg_right h1 h'
    have q2 := Rat.mul_le_mul_of_nonneg_right h2 h'
    have q3 := Rat.mul_le_mul_of_nonneg_left (show -b ≤ 6 by grind) hM
    exact ⟨by grind, by grind⟩
/-- the light: how far it is from the exact one, and how it stands to the greatest channel -/
theorem light16 (mn mx : Nat) (fl : Finite mn) (fh : Finite mx) (h0 : 0 ≤ val mn) (hlt : val mn < val mx) (h1 : val mx ≤ 1) :
    ∃ sm li om, double.add mn mx = some sm ∧ double.div sm 4611686018427387904 = some li ∧ double.add (FL.flip li) 4607182418800017408 = some om ∧ Finite li ∧ Finite om ∧ 0 ≤ val li ∧ (val mn + val mx) / 2 - 1 / 1000000000000000 ≤ val li ∧ val li ≤ (val mn + val mx) / 2 + 1 / 1000000000000000 ∧ 1 - val li - 1 / 1000000000000000 ≤ val om ∧ val om ≤ 1 - val li + 1 / 1000000000000000 ∧
      (0 < val li → val mx ≤ 4 * val li) ∧ (val om ≤ val li → val li ≤ val mx ∧ 1 - val li ≤ 2 * val om ∧ (val om = 0 → val li = 1)) := by
  obtain ⟨b22, b23⟩ := big1022
  have hu : u = 1 / 9007199254740992 := rfl
  have he := eta_nano
  have he0 := eta_pos
  obtain ⟨f2, v2⟩ := cTwo
  obtain ⟨fo, vo⟩ := cOne
  obtain ⟨sm, e1, g1, r1⟩ := add_ok mn mx fl fh (by grind) (by grind)
  have s1 := r1 (val mn + val mx) (by grind) Rat.le_refl
  rw [hu] at s1
  obtain ⟨li, e2, g2, r2⟩ := div_ok sm 4611686018427387904 g1 f2 (by rw [v2]; decide +kernel) (val sm / 2) (by rw [v2]; grind) (by grind) (by grind)
  have s2 := r2 (val sm / 2) (by grind) Rat.le_refl
  rw [hu] at s2
  obtain ⟨om, e3, g3, r3⟩ := add_ok (FL.flip li) 4607182418800017408 (flip_fin li g2) fo (by rw [flip_val li g2.1, vo]; grind) (by rw [flip_val li g2.1, vo]; grind)
  rw [flip_val li g2.1, vo] at r3
  clear r1 r2
  have s3 := r3 2 (by grind) (by grind)
  rw [hu] at s3
  have R3 : RndS om (-val li + 1) := ⟨g3, r3⟩
  clear r3
  -- not below zero
  have hsm0 : 0 ≤ val sm := by grind
  have hli0 : 0 ≤ val li := by
    rcases (by grind : 0 ≤ val li ∨ val li < 0) with h | h
    · exact h
    · exfalso
      have hf := least_pos (flip_fin li g2) (by rw [flip_val li g2.1]; grind)
      rw [flip_val li g2.1, ← eta_half] at hf
      grind
  refine ⟨sm, li, om, e1, e2, e3, g2, g3, hli0, by grind, by grind, by grind, by grind, ?_, ?_⟩
  · intro hp
    have hf := least_pos g2 hp
    rw [← eta_half] at hf
    grind
  · intro hom
    have hli : 49 / 100 ≤ val li := by grind
    have hsm : 9 / 10 ≤ val sm := by grind
    obtain ⟨c, j, hc, hj, hj2, hv⟩ := digits g1 hsm0
    have hj54 : -1000 ≤ j := by
      rcases (by omega : -1000 ≤ j ∨ j < -1000) with h | h
      · exact h
      · exfalso
        have q : (c : Rat) ≤ ((2 ^ 53 : Nat) : Rat) := by exact_mod_cast Nat.le_of_lt hc
        have q2 := Rat.mul_le_mul_of_nonneg_right q (Rat.le_of_lt (p2_pos j))
        rw [← p2_nat, ← p2_add] at q2
        have q3 : p2 (((53 : Nat) : Int) + j) ≤ p2 (-1) := p2_le (by omega)
        have q4 : p2 (-1) = 1 / 2 := by decide +kernel
        rw [← hv] at q2
        rw [q4] at q3
        clear s1 s2 s3 hv
        grind
    have hex : Exact (val sm / 2) := by
      refine ⟨false, c, j - 1, ?_, hc, by omega, ?_⟩
      · have := half_p2 j
        have hs : sg false = 1 := rfl
        rw [hv, hs, this]; grind
      · have := half_p2 j
        have hq : (c : Rat) * p2 (j - 1) = val sm / 2 := by rw [hv, this]; grind
        rw [hq]; grind
    obtain ⟨li', e2', -, v2'⟩ := div_exact g1 f2 (by rw [v2]; decide +kernel) (val sm / 2) (by rw [v2]; grind) hex
    have hll : li' = li := Option.some.inj (e2'.symm.trans e2)
    rw [hll] at v2'
    -- the sum does not pass twice the greatest
    obtain ⟨c', j', hc', hj', hj2', hv'⟩ := digits fh (by grind)
    obtain ⟨b, k, i, ef, -, vf⟩ := add_form fl fh
    replace ef := Option.some.inj (e1.symm.trans ef)
    have hb := (form_bound (c := c') (j := j' + 1) vf (by grind) (by grind) hc' (by omega)).1
    have h2M : (c' : Rat) * p2 (j' + 1) = 2 * val mx := by rw [hv', p2_add, p2_one]; grind
    rw [h2M, ← ef] at hb
    have hle : val li ≤ val mx := by have := hb (by grind); grind
    have s4 := R3.2 (1 - val li) (by grind) (by grind)
    rw [hu] at s4
    refine ⟨hle, by grind, fun hz => ?_⟩
    rcases (by grind : -val li + 1 = 0 ∨ -val li + 1 ≠ 0) with h | h
    · grind
    · exact absurd hz (RndS.nz R3 h)
/-- light and saturation, there and back -/
theorem sat16 (mn mx : Nat) (fl : Finite mn) (fh : Finite mx) (h0 : 0 ≤ val mn) (hlt : val mn < val mx) (h1 : val mx ≤ 1) :
    ∃ sm li lO om l' om', double.add mn mx = some sm ∧ double.div sm 4611686018427387904 = some li ∧ double.mul li 4636737291354636288 = some lO ∧ double.add (FL.flip li) 4607182418800017408 = some om ∧ double.div lO 4636737291354636288 = some l' ∧ double.add (FL.flip l') 4607182418800017408 = some om' ∧ Finite l' ∧ Finite (minW l' om') ∧
      (val mn + val mx) / 2 - 1 / 1000000000000 ≤ val l' ∧ val l' ≤ (val mn + val mx) / 2 + 1 / 1000000000000 ∧
      ((eqB (minW li om) 0 = true ∧ (val mx - val mn) / 2 ≤ 1 / 100000000000) ∨ (eqB (minW li om) 0 = false ∧ ∃ t sat sO s', double.sub mx li = some t ∧ double.div t (minW li om) = some sat ∧ double.mul sat 4636737291354636288 = some sO ∧ double.div sO 4636737291354636288 = some s' ∧ Finite s' ∧ (val mx - val mn) / 2 - 1 / 100000000000 ≤ val (minW l' om') * val s' ∧ val (minW l' om') * val s' ≤ (val mx - val mn) / 2 + 1 / 100000000000)) := by
  obtain ⟨b22, b23⟩ := big1022
  have hu : u = 1 / 9007199254740992 := rfl
  have he := eta_nano
  have he0 := eta_pos
  obtain ⟨fo, vo⟩ := cOne
  obtain ⟨fc, vc⟩ := cHundred
  obtain ⟨sm, li, om, e1, e2, e3, fli, fom, l0, l1, l2, o1, o2, k1, k2⟩ := light16 mn mx fl fh h0 hlt h1
  obtain ⟨lO, e4, f4, r4⟩ := mul_ok li 4636737291354636288 fli fc (by rw [vc]; grind) (by rw [vc]; grind)
  rw [vc] at r4
  have s4 := r4 101 (by grind) (by grind)
  rw [hu] at s4
  obtain ⟨l', e5, f5, r5⟩ := div_ok lO 4636737291354636288 f4 fc (by rw [vc]; decide +kernel) (val lO / 100) (by rw [vc]; grind) (by grind) (by grind)
  have s5 := r5 2 (by grind) (by grind)
  rw [hu] at s5
  obtain ⟨om', e6, f6, r6⟩ := add_ok (FL.flip l') 4607182418800017408 (flip_fin l' f5) fo (by rw [flip_val l' f5.1, vo]; grind) (by rw [flip_val l' f5.1, vo]; grind)
  rw [flip_val l' f5.1, vo] at r6
  clear r4 r5
  have s6 := r6 2 (by grind) (by grind)
  rw [hu] at s6
  clear r6
  have m1 := min_ok fli fom
  have m2 := min_ok f5 f6
  refine ⟨sm, li, lO, om, l', om', e1, e2, e4, e3, e5, e6, f5, m2.1, by grind, by grind, ?_⟩
  cases hq : eqB (minW li om) 0 with
  | true =>
    left
    refine ⟨rfl, ?_⟩
    rw [eqB_ok m1.1 fin_zero, val_zero, decide_eq_true_eq] at hq
    rcases m1.2.2.2 with e | e
    · rw [e] at hq; grind
    · rw [e] at hq m1
      have := (k2 m1.2.1).2.2 hq
      grind
  | false =>
    right
    refine ⟨rfl, ?_⟩
    rw [eqB_ok m1.1 fin_zero, val_zero, decide_eq_false_iff_not] at hq
    obtain ⟨t, e7, f7, r7⟩ := sub_ok mx li fh fli (by grind) (by grind)
    have s7 := r7 2 (by grind) (by grind)
    rw [hu] at s7
    have R7 : RndS t (val mx - val li) := ⟨f7, r7⟩
    clear r7
    -- the quotient is small
    have key : ∃ v : Rat, v * val (minW li om) = val t ∧ -4 ≤ v ∧ v ≤ 4 := by
      have hdv : 0 < val (minW li om) ∧ -(4 * val (minW li om)) ≤ val t ∧ val t ≤ 4 * val (minW li om) := by
        rcases m1.2.2.2 with e | e
        · rw [e] at hq ⊢
          have hp : 0 < val li := by grind
          have := k1 hp
          have s8 := R7.2 (3 * val li) (by grind) (by grind)
          rw [hu] at s8
          exact ⟨hp, by grind, by grind⟩
        · rw [e] at hq m1 ⊢
          obtain ⟨a1, a2, -⟩ := k2 m1.2.1
          have s8 := R7.2 (val mx - val li) (by grind) Rat.le_refl
          rw [hu] at s8
          exact ⟨by grind, by grind, by grind⟩
      obtain ⟨p0, p1, p2⟩ := hdv
      refine ⟨val t / val (minW li om), Rat.div_mul_cancel hq, ?_, ?_⟩
      · refine mul_le_cancel p0 ?_
        rw [Rat.div_mul_cancel hq]; grind
      · refine mul_le_cancel p0 ?_
        rw [Rat.div_mul_cancel hq]; grind
    obtain ⟨v, hv, v1, v2⟩ := key
    obtain ⟨sat, e8, f8, r8⟩ := div_ok t (minW li om) f7 m1.1 hq v hv (by grind) (by grind)
    have s8 := r8 4 (by grind) (by grind)
    rw [hu] at s8
    clear r8
    obtain ⟨sO, e9, f9, r9⟩ := mul_ok sat 4636737291354636288 f8 fc (by rw [vc]; grind) (by rw [vc]; grind)
    rw [vc] at r9
    have s9 := r9 500 (by grind) (by grind)
    rw [hu] at s9
    clear r9
    obtain ⟨s', e10, f10, r10⟩ := div_ok sO 4636737291354636288 f9 fc (by rw [vc]; decide +kernel) (val sO / 100) (by rw [vc]; grind) (by grind) (by grind)
    have s10 := r10 6 (by grind) (by grind)
    rw [hu] at s10
    clear r10
    refine ⟨t, sat, sO, s', e7, e8, e9, e10, f10, ?_⟩
    have d1 : -(1 / 100000000000000) ≤ val (minW l' om') - val (minW li om) ∧ val (minW l' om') - val (minW li om) ≤ 1 / 100000000000000 := by
      obtain ⟨-, a1, a2, a3⟩ := m1
      obtain ⟨-, a4, a5, a6⟩ := m2
      constructor
      · rcases a6 with e | e <;> rw [e] <;> grind
      · rcases a3 with e | e <;> rw [e] <;> grind
    have d2 := mul_le_abs (a := val (minW l' om') - val (minW li om)) (b := val s') (M := 1 / 100000000000000) (by grind) (by grind) (by grind) (by grind)
    have d3 := mul_le_abs (a := val s' - v) (b := val (minW li om)) (M := 1 / 10000000000000) (by grind) (by grind) (by grind) (by grind)
    have ex : val (minW l' om') * val s' = val t + (val (minW l' om') - val (minW li om)) * val s' + (val s' - v) * val (minW li om) := by rw [← hv]; grind
    rw [ex]
    exact ⟨by grind, by grind⟩
/-- the hue's quotient -/
theorem ratio16 (x y mn mx : Nat) (fx : Finite x) (fy : Finite y) (fl : Finite mn) (fh : Finite mx) (h0 : 0 ≤ val mn) (hlt : val mn < val mx) (h1 : val mx ≤ 1) (a1 : -(val mx - val mn) ≤ val x - val y) (a2 : val x - val y ≤ val mx - val mn) :
    ∃ d p q, double.sub mx mn = some d ∧ eqB d 0 = false ∧ double.sub x y = some p ∧ double.div p d = some q ∧ Finite q ∧ ∃ X : Rat, X * (val mx - val mn) = val x - val y ∧ -1 ≤ X ∧ X ≤ 1 ∧ X - 1 / 100000000000000 ≤ val q ∧ val q ≤ X + 1 / 100000000000000 := by
  obtain ⟨b22, b23⟩ := big1022
  have hu : u = 1 / 9007199254740992 := rfl
  have he := eta_nano
  have he0 := eta_pos
  obtain ⟨d, e1, f1, r1⟩ := sub_ok mx mn fh fl (by grind) (by grind)
  have s1 := r1 (val mx - val mn) (by grind) Rat.le_refl
  rw [hu] at s1
  clear r1
  have hd0 : 0 < val d := by grind
  have hd : val d ≠ 0 := by grind
  obtain ⟨p, e2, f2, r2⟩ := sub_ok x y fx fy (by grind) (by grind)
  have s2 := r2 (val mx - val mn) a1 a2
  rw [hu] at s2
  clear r2
  obtain ⟨D, hD⟩ : ∃ D, D = val mx - val mn := ⟨_, rfl⟩
  have hDp : 0 < D := by grind
  have hDn : D ≠ 0 := by grind
  obtain ⟨X, hX⟩ : ∃ X, X = (val x - val y) / D := ⟨_, rfl⟩
  have hXD : X * D = val x - val y := by rw [hX]; exact Rat.div_mul_cancel hDn
  have x1 : -1 ≤ X := mul_le_cancel hDp (by rw [hXD]; grind)
  have x2 : X ≤ 1 := mul_le_cancel hDp (by rw [hXD]; grind)
  obtain ⟨v, hv⟩ : ∃ v, v = val p / val d := ⟨_, rfl⟩
  have hvd : v * val d = val p := by rw [hv]; exact Rat.div_mul_cancel hd
  have m := mul_le_abs (a := D - val d) (b := X) (M := D / 9007199254740992) (by grind) (by grind) (by grind) (by grind)
  have ev : (v - X) * val d = (val p - (val x - val y)) + (D - val d) * X := by rw [← hXD]; grind
  have w1 : v - X ≤ 1 / 1000000000000000 := mul_le_cancel hd0 (by rw [ev]; grind)
  have w2 : -(1 / 1000000000000000) ≤ v - X := mul_le_cancel hd0 (by rw [ev]; grind)
  obtain ⟨q, e3, f3, r3⟩ := div_ok p d f2 f1 hd v hvd (by grind) (by grind)
  have s3 := r3 2 (by grind) (by grind)
  rw [hu] at s3
  refine ⟨d, p, q, e1, ?_, e2, e3, f3, X, by rw [← hD]; exact hXD, x1, x2, by grind, by grind⟩
  rw [eqB_ok f1 fin_zero, val_zero]; exact decide_eq_false hd
end FL
