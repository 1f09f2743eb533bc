/-
  Plain facts on IEEE double words, continued: square roots, near and from below.
-/
import Derived.Test.YtafeeebgleecfaaFLQ
namespace FL
open Ieee
set_option linter.unusedVariables false
theorem rootFrom_ok (n : Nat) : ∀ (todo root : Nat), root * root ≤ n → n < (root + 2 ^ todo) * (root + 2 ^ todo) → Datum.rootFrom n todo root * Datum.rootFrom n todo root ≤ n ∧ n < (Datum.rootFrom n todo root + 1) * (Datum.rootFrom n todo root + 1)
  | 0, root, h1, h2 => by
    unfold Datum.rootFrom
    exact ⟨h1, by simpa using h2⟩
  | todo + 1, root, h1, h2 => by
    unfold Datum.rootFrom
    simp only [Nat.one_shiftLeft]
    by_cases h : (root + 2 ^ todo) * (root + 2 ^ todo) ≤ n
    · rw [if_pos h]
      refine rootFrom_ok n todo _ h ?_
      have : root + 2 ^ todo + 2 ^ todo = root + 2 ^ (todo + 1) := by rw [Nat.pow_succ]; omega
      rw [this]; exact h2
    · rw [if_neg h]
      exact rootFrom_ok n todo root h1 (by omega)
theorem whole_ok (n : Nat) : Datum.rootFrom n (n.log2 / 2 + 1) 0 * Datum.rootFrom n (n.log2 / 2 + 1) 0 ≤ n ∧ n < (Datum.rootFrom n (n.log2 / 2 + 1) 0 + 1) * (Datum.rootFrom n (n.log2 / 2 + 1) 0 + 1) := by
  refine rootFrom_ok n _ 0 (by simp) ?_
  rw [Nat.zero_add, ← Nat.pow_add]
  have h1 : n < 2 ^ (n.log2 + 1) := Nat.lt_log2_self
  have h2 : 2 ^ (n.log2 + 1) ≤ 2 ^ (n.log2 / 2 + 1 + (n.log2 / 2 + 1)) := Nat.pow_le_pow_right (by decide) (by omega)
  omega
/-- the root of a positive word: a whole number of small steps, rounded -/
theorem sqrt_form (x : Nat) (h : Finite x) (h0 : 0 < val x) :
    ∃ (n whole s : Nat) (e : Int), double.sqrt x = some (double.nearest false (2 * whole + s) (e - 1)) ∧ val x = (n : Rat) * (p2 e * p2 e) ∧ whole * whole ≤ n ∧ n < (whole + 1) * (whole + 1) ∧ 2 ^ 54 ≤ whole ∧ ((s = 0 ∧ whole * whole = n) ∨ (s = 1 ∧ whole * whole ≠ n)) := by
  obtain ⟨sg', m, i, hr, hm, hi, hi2⟩ := read_fin x h
  have hv : val x = sg sg' * ((m : Rat) * p2 i) := by simp [val, hr, dval]
  have hnn := mp_nonneg m i
  have hm0 : m ≠ 0 := by
    intro e; subst e
    have z : ((0 : Nat) : Rat) * p2 i = 0 := Rat.zero_mul _
    rw [z] at hv; grind
  have hs : sg' = false := by
    cases sg' with
    | false => rfl
    | true => simp only [sg, if_true] at hv; grind
  subst hs
  have hv' : val x = (m : Rat) * p2 i := by rw [hv]; simp only [sg, Bool.false_eq_true, if_false]; grind
  obtain ⟨mo, hmo⟩ : ∃ mo, mo = 2 * (52 + 2) - m.log2 + ((i - ((2 * (52 + 2) - m.log2 : Nat) : Int)) % 2).toNat := ⟨_, rfl⟩
  have hev : (i - (mo : Int)) % 2 = 0 := by omega
  obtain ⟨e, he⟩ : ∃ e : Int, i - (mo : Int) = e + e := ⟨(i - (mo : Int)) / 2, by omega⟩
  have he2 : (i - (mo : Int)) / 2 = e := by omega
  obtain ⟨n, hn⟩ : ∃ n, n = m <<< mo := ⟨_, rfl⟩
  obtain ⟨wh, hwh⟩ : ∃ wh, wh = Datum.rootFrom n (n.log2 / 2 + 1) 0 := ⟨_, rfl⟩
  have hw := whole_ok n
  rw [← hwh] at hw
  have hq : double.sqrt x = some (double.nearest false (2 * wh + (wh * wh != n).toNat) (e - 1)) := by
    have hfb : double.fractionBits = 52 := rfl
    simp only [Format.sqrt, hr, Datum.root, hm0, if_false, Bool.false_eq_true, hfb, Option.map_some]
    rw [← hmo, he2, ← hn, ← hwh]
    rfl
  have hlog : m.log2 ≤ 52 := by
    have := Nat.log2_self_le hm0
    rcases Nat.lt_or_ge m.log2 53 with h1 | h1
    · omega
    · have : 2 ^ 53 ≤ 2 ^ m.log2 := Nat.pow_le_pow_right (by decide) h1
      omega
  have hbig : 2 ^ 108 ≤ n := by
    rw [hn, Nat.shiftLeft_eq]
    have h1 := Nat.log2_self_le hm0
    have h2 : 2 ^ (108 - m.log2) ≤ 2 ^ mo := Nat.pow_le_pow_right (by decide) (by omega)
    have h3 : 2 ^ 108 = 2 ^ m.log2 * 2 ^ (108 - m.log2) := by rw [← Nat.pow_add]; congr 1; omega
    rw [h3]; exact Nat.mul_le_mul h1 h2
  have hwbig : 2 ^ 54 ≤ wh := by
    rcases Nat.lt_or_ge wh (2 ^ 54) with h1 | h1
    · have : (wh + 1) * (wh + 1) ≤ 2 ^ 54 * 2 ^ 54 := Nat.mul_le_mul (by omega) (by omega)
      omega
    · exact h1
  refine ⟨n, wh, (wh * wh != n).toNat, e, hq, ?_, hw.1, hw.2, hwbig, ?_⟩
  · rw [hv', hn, Nat.shiftLeft_eq, Rat.natCast_mul, ← p2_nat, ← p2_add, Rat.mul_assoc, ← p2_add]
    congr 2
    omega
  · by_cases hh : wh * wh = n
    · left; exact ⟨by simp [hh], hh⟩
    · right; exact ⟨by simp [hh], hh⟩
theorem nat_sq (a : Nat) : ((a * a : Nat) : Rat) = (a : Rat) * (a : Rat) := Rat.natCast_mul _ _
theorem sq_le_sq {a b : Rat} (ha : 0 ≤ a) (h : a ≤ b) : a * a ≤ b * b := by
  have h1 := Rat.mul_le_mul_of_nonneg_left h ha
  have h2 := Rat.mul_le_mul_of_nonneg_right h (show 0 ≤ b by grind)
  grind
theorem le_of_sq {a b : Rat} (hb : 0 ≤ b) (h : a * a ≤ b * b) : a ≤ b := by
  rcases (by grind : a ≤ b ∨ b < a) with h1 | h1
  · exact h1
  · exfalso
    have h2 := Rat.mul_lt_mul_of_pos_right h1 (show 0 < a by grind)
    have h3 := Rat.mul_le_mul_of_nonneg_left (Rat.le_of_lt h1) hb
    grind
/-- the root from above -/
theorem sqrt_upper (x r : Nat) (h : Finite x) (h0 : 0 < val x) (hb : val x ≤ p2 1000) (hr : double.sqrt x = some r) (Y : Rat) (hY : 0 ≤ Y) (hxy : val x ≤ Y * Y) : Finite r ∧ 0 ≤ val r ∧ val r ≤ Y * (1 + 1 / 4503599627370496) + eta := by
  obtain ⟨n, wh, s, e, hq, hv, h1, h2, h3, h4⟩ := sqrt_form x h h0
  have er : r = double.nearest false (2 * wh + s) (e - 1) := Option.some.inj (hr.symm.trans hq)
  have hP := p2_pos e
  have hP2 : p2 e = 2 * p2 (e - 1) := half_p2 e
  obtain ⟨v, hvd⟩ : ∃ v, v = ((2 * wh + s : Nat) : Rat) * p2 (e - 1) := ⟨_, rfl⟩
  have ev : v = (wh : Rat) * p2 e + (s : Rat) * p2 (e - 1) := by
    rw [hvd, Rat.natCast_add, Rat.natCast_mul, hP2]; have : ((2 : Nat) : Rat) = 2 := rfl; rw [this]; grind
  have hsq : (wh : Rat) * p2 e * ((wh : Rat) * p2 e) ≤ Y * Y := by
    have q : ((wh * wh : Nat) : Rat) ≤ (n : Rat) := by exact_mod_cast h1
    have q2 := Rat.mul_le_mul_of_nonneg_right q (Rat.le_of_lt (Rat.mul_pos hP hP))
    rw [nat_sq, ← hv] at q2
    grind
  have hwp := le_of_sq hY hsq
  have hs1 : (s : Rat) ≤ 1 := by
    rcases h4 with ⟨e1, -⟩ | ⟨e1, -⟩ <;> rw [e1] <;> decide +kernel
  have hs0 : (0 : Rat) ≤ (s : Rat) := Rat.natCast_nonneg
  have hbig : (18014398509481984 : Rat) * p2 e ≤ (wh : Rat) * p2 e := by
    have q : ((2 ^ 54 : Nat) : Rat) ≤ (wh : Rat) := by exact_mod_cast h3
    have e54 : ((2 ^ 54 : Nat) : Rat) = 18014398509481984 := by decide +kernel
    rw [e54] at q
    exact Rat.mul_le_mul_of_nonneg_right q (Rat.le_of_lt hP)
  have hsp : (s : Rat) * p2 (e - 1) ≤ p2 (e - 1) := by
    have := Rat.mul_le_mul_of_nonneg_right hs1 (Rat.le_of_lt (p2_pos (e - 1))); grind
  have hv1 : v ≤ Y * (1 + 1 / 36028797018963968) := by grind
  have hv0 : 0 ≤ v := by rw [hvd]; exact mp_nonneg _ _
  -- v is not great
  have hvsmall : v < p2 1023 := by
    have hw2 : (wh : Rat) * p2 e * ((wh : Rat) * p2 e) ≤ p2 500 * p2 500 := by
      have q : ((wh * wh : Nat) : Rat) ≤ (n : Rat) := by exact_mod_cast h1
      have q2 := Rat.mul_le_mul_of_nonneg_right q (Rat.le_of_lt (Rat.mul_pos hP hP))
      rw [nat_sq, ← hv] at q2
      have e5 : p2 500 * p2 500 = p2 1000 := by rw [← p2_add]; rfl
      rw [e5]; grind
    have hw3 := le_of_sq (Rat.le_of_lt (p2_pos 500)) hw2
    have hw4 : p2 1023 = p2 500 * p2 523 := by rw [← p2_add]; rfl
    have hw5 : p2 2 ≤ p2 523 := p2_le (by decide)
    have hw6 : p2 2 = 4 := by decide +kernel
    have hw7 := Rat.mul_le_mul_of_nonneg_left hw5 (Rat.le_of_lt (p2_pos 500))
    have hw8 : p2 500 * 4 ≤ p2 1023 := by rw [hw4, ← hw6]; exact hw7
    have hw9 := p2_pos 500
    have hw10 : v ≤ 2 * ((wh : Rat) * p2 e) := by clear hsq hw2 hv h1 h2 hw4 hw5 hw7 hvd h4; grind
    clear hsq hw2 hv h1 h2 hw4 hw5 hw7 hvd h4 ev hsp hbig hv1
    generalize (wh : Rat) * p2 e = W at *
    grind
  obtain ⟨fr, hrb⟩ := nearest_rnd false (2 * wh + s) (e - 1) (by rw [← hvd]; exact hvsmall)
  have hsg : sg false = 1 := rfl
  rw [hsg, Rat.one_mul, ← hvd] at hrb
  have hb2 := hrb v (by grind) Rat.le_refl
  have hu : u = 1 / 9007199254740992 := rfl
  rw [hu] at hb2
  obtain ⟨aa, ea, ha, -, -⟩ := near_bound false (2 * wh + s) (e - 1) (by rw [← hvd]; exact hvsmall) 0 0 (by decide) (by decide)
  rw [hsg, Rat.one_mul] at ea
  rw [er]
  exact ⟨fr, by rw [ea]; exact ha, by grind⟩
theorem p2_shift {i e : Int} (h : e ≤ i) : ∃ t : Nat, p2 i = ((2 ^ t : Nat) : Rat) * p2 e := by
  obtain ⟨t, ht⟩ : ∃ t : Nat, i = e + t := ⟨(i - e).toNat, by omega⟩
  refine ⟨t, ?_⟩
  rw [ht, p2_add, p2_nat]; grind
/-- the root's steps against a number on their grid -/
theorem grid_ge {n wh s Mi : Nat} (h1 : wh * wh ≤ n) (h2 : n < (wh + 1) * (wh + 1)) (h : Mi * Mi ≤ n) : Mi ≤ wh := by
  rcases Nat.lt_or_ge wh Mi with hlt | hge
  · exfalso
    have : (wh + 1) * (wh + 1) ≤ Mi * Mi := Nat.mul_le_mul hlt hlt
    omega
  · exact hge
theorem sqrt_lower (x r m : Nat) (i : Int) (h : Finite x) (h0 : 0 < val x) (hb : val x ≤ p2 1000) (hr : double.sqrt x = some r) (m1 : 2 ^ 52 ≤ m) (m2 : m < 2 ^ 53) (hi : -1000 ≤ i)
    (hx : (m = 2 ^ 52 ∧ (m : Rat) * p2 i * ((m : Rat) * p2 i) ≤ val x) ∨ (2 ^ 52 < m ∧ ((2 * m - 1 : Nat) : Rat) * p2 (i - 1) * (((2 * m - 1 : Nat) : Rat) * p2 (i - 1)) < val x)) : (m : Rat) * p2 i ≤ val r := by
  obtain ⟨n, wh, s, e, hq, hv, h1, h2, h3, h4⟩ := sqrt_form x h h0
  have er : r = double.nearest false (2 * wh + s) (e - 1) := Option.some.inj (hr.symm.trans hq)
  obtain ⟨v, hvd⟩ : ∃ v, v = ((2 * wh + s : Nat) : Rat) * p2 (e - 1) := ⟨_, rfl⟩
  have hP := p2_pos e
  have hP2 : p2 e = 2 * p2 (e - 1) := half_p2 e
  have ev : v = (wh : Rat) * p2 e + (s : Rat) * p2 (e - 1) := by
    rw [hvd, Rat.natCast_add, Rat.natCast_mul, hP2]; have : ((2 : Nat) : Rat) = 2 := rfl; rw [this]; grind
  have hs0 : (0 : Rat) ≤ (s : Rat) * p2 (e - 1) := mp_nonneg _ _
  -- v is not great
  have hvsmall : v < p2 1023 := by
    have hU := sqrt_upper x r h h0 hb hr (p2 500) (Rat.le_of_lt (p2_pos 500)) (by rw [← p2_add]; exact hb)
    have hs1 : (s : Rat) ≤ 1 := by
      rcases h4 with ⟨e1, -⟩ | ⟨e1, -⟩ <;> rw [e1] <;> decide +kernel
    have hsp : (s : Rat) * p2 (e - 1) ≤ p2 (e - 1) := by
      have := Rat.mul_le_mul_of_nonneg_right hs1 (Rat.le_of_lt (p2_pos (e - 1))); grind
    have hw2 : (wh : Rat) * p2 e * ((wh : Rat) * p2 e) ≤ p2 500 * p2 500 := by
      have q : ((wh * wh : Nat) : Rat) ≤ (n : Rat) := by exact_mod_cast h1
      have q2 := Rat.mul_le_mul_of_nonneg_right q (Rat.le_of_lt (Rat.mul_pos hP hP))
      rw [nat_sq, ← hv] at q2
      have e5 : p2 500 * p2 500 = p2 1000 := by rw [← p2_add]; rfl
      rw [e5]; grind
    have hw3 := le_of_sq (Rat.le_of_lt (p2_pos 500)) hw2
    have hbig : (18014398509481984 : Rat) * p2 e ≤ (wh : Rat) * p2 e := by
      have q : ((2 ^ 54 : Nat) : Rat) ≤ (wh : Rat) := by exact_mod_cast h3
      have e54 : ((2 ^ 54 : Nat) : Rat) = 18014398509481984 := by decide +kernel
      rw [e54] at q
      exact Rat.mul_le_mul_of_nonneg_right q (Rat.le_of_lt hP)
    have hw4 : p2 1023 = p2 500 * p2 523 := by rw [← p2_add]; rfl
    have hw5 : p2 2 ≤ p2 523 := p2_le (by decide)
    have hw6 : p2 2 = 4 := by decide +kernel
    have hw7 := Rat.mul_le_mul_of_nonneg_left hw5 (Rat.le_of_lt (p2_pos 500))
    have hw8 : p2 500 * 4 ≤ p2 1023 := by rw [hw4, ← hw6]; exact hw7
    have hw9 := p2_pos 500
    have hw10 : v ≤ 2 * ((wh : Rat) * p2 e) := by clear hw2 hv h1 h2 hw4 hw5 hw7 hvd h4 hx hU; grind
    clear hw2 hv h1 h2 hw4 hw5 hw7 hvd h4 ev hsp hbig hx hU hs0
    generalize (wh : Rat) * p2 e = W at *
    grind
  rw [hvd] at hvsmall
  have hsg : sg false = 1 := rfl
  have nat1 : ((1 : Nat) : Rat) = 1 := rfl
  -- a coarse grid: the root is beyond c at once
  have coarse : i ≤ e → (m : Rat) * p2 i ≤ v := by
    intro hie
    obtain ⟨t, ht⟩ := p2_shift hie
    have q : (m : Rat) ≤ (wh : Rat) := by exact_mod_cast (by omega : m ≤ wh)
    have q1 : p2 i ≤ p2 e := p2_le hie
    have q2 := Rat.mul_le_mul_of_nonneg_right q (Rat.le_of_lt (p2_pos i))
    have q3 := Rat.mul_le_mul_of_nonneg_left q1 (Rat.natCast_nonneg (a := wh))
    rw [ev]; grind
  have up : (m : Rat) * p2 i ≤ v → (m : Rat) * p2 i ≤ val r := by
    intro hle
    obtain ⟨a, ea, -, -, ha⟩ := near_bound false (2 * wh + s) (e - 1) hvsmall m i m2 (by omega)
    rw [hsg, Rat.one_mul] at ea
    rw [er, ea]
    exact ha (by rw [← hvd]; exact hle)
  rcases (by omega : i ≤ e ∨ e ≤ i - 1) with hie | hie
  · exact up (coarse hie)
  rcases hx with ⟨hm, hx⟩ | ⟨hm, hx⟩
  · obtain ⟨t, ht⟩ := p2_shift (show e ≤ i by omega)
    refine up ?_
    have hC : (m : Rat) * p2 i = ((m * 2 ^ t : Nat) : Rat) * p2 e := by rw [ht, Rat.natCast_mul]; grind
    rw [hC] at hx ⊢
    have hn : (m * 2 ^ t) * (m * 2 ^ t) ≤ n := by
      have q : ((m * 2 ^ t * (m * 2 ^ t) : Nat) : Rat) * (p2 e * p2 e) ≤ (n : Rat) * (p2 e * p2 e) := by rw [nat_sq, ← hv]; grind
      have q2 := mul_le_cancel (Rat.mul_pos hP hP) q
      exact_mod_cast q2
    have hg := grid_ge (s := s) h1 h2 hn
    have q : ((m * 2 ^ t : Nat) : Rat) ≤ (wh : Rat) := by exact_mod_cast hg
    have q2 := Rat.mul_le_mul_of_nonneg_right q (Rat.le_of_lt hP)
    rw [ev]; grind
  · obtain ⟨t, ht⟩ := p2_shift hie
    obtain ⟨M, hM⟩ : ∃ M, M = ((2 * m - 1 : Nat) : Rat) * p2 (i - 1) := ⟨_, rfl⟩
    have hMg : M = (((2 * m - 1) * 2 ^ t : Nat) : Rat) * p2 e := by rw [hM, ht, Rat.natCast_mul]; grind
    rw [← hM] at hx
    have hn : ((2 * m - 1) * 2 ^ t) * ((2 * m - 1) * 2 ^ t) < n := by
      have q : (((2 * m - 1) * 2 ^ t * ((2 * m - 1) * 2 ^ t) : Nat) : Rat) * (p2 e * p2 e) < (n : Rat) * (p2 e * p2 e) := by
        rw [nat_sq, ← hv]
        have : ((((2 * m - 1) * 2 ^ t : Nat) : Rat) * (((2 * m - 1) * 2 ^ t : Nat) : Rat)) * (p2 e * p2 e) = M * M := by rw [hMg]; grind
        rw [this]; exact hx
      rcases Nat.lt_or_ge ((2 * m - 1) * 2 ^ t * ((2 * m - 1) * 2 ^ t)) n with hh | hh
      · exact hh
      · exfalso
        have q3 : (n : Rat) ≤ (((2 * m - 1) * 2 ^ t * ((2 * m - 1) * 2 ^ t) : Nat) : Rat) := by exact_mod_cast hh
        have q4 := Rat.mul_le_mul_of_nonneg_right q3 (Rat.le_of_lt (Rat.mul_pos hP hP))
        grind
    have hg := grid_ge (s := s) h1 h2 (Nat.le_of_lt hn)
    have hvM : M < v := by
      rw [hMg, ev]
      rcases Nat.lt_or_ge ((2 * m - 1) * 2 ^ t) wh with hlt | hge
      · have q : (((2 * m - 1) * 2 ^ t : Nat) : Rat) < (wh : Rat) := by exact_mod_cast hlt
        have q2 := Rat.mul_lt_mul_of_pos_right q hP
        grind
      · have hw : wh = (2 * m - 1) * 2 ^ t := by omega
        have hs : s = 1 := by
          rcases h4 with ⟨-, h5⟩ | ⟨h5, -⟩
          · exfalso; rw [← h5, hw] at hn; omega
          · exact h5
        rw [← hw, hs, nat1]
        have := p2_pos (e - 1)
        grind
    have hpi : p2 i = 2 * p2 (i - 1) := half_p2 i
    have hMc : M = (m : Rat) * p2 i - p2 (i - 1) := by
      have : ((2 * m - 1 : Nat) : Rat) = 2 * (m : Rat) - 1 := by
        have h5 : 2 * m - 1 + 1 = 2 * m := by omega
        have h6 : ((2 * m - 1 + 1 : Nat) : Rat) = ((2 * m : Nat) : Rat) := by rw [h5]
        rw [Rat.natCast_add, Rat.natCast_mul] at h6
        have h7 : ((2 : Nat) : Rat) = 2 := rfl
        rw [h7, nat1] at h6
        grind
      rw [hM, this, hpi]; grind
    rcases (by grind : (m : Rat) * p2 i ≤ val r ∨ val r < (m : Rat) * p2 i) with hd | hd
    · exact hd
    exfalso
    obtain ⟨a, ea, -, -, ha⟩ := near_bound false (2 * wh + s) (e - 1) hvsmall (m - 1) i (by omega) (by omega)
    rw [hsg, Rat.one_mul, ← er] at ea
    rw [← hvd, ← ea] at ha
    have hpp := p2_pos (i - 1)
    have hm1 : ((m - 1 : Nat) : Rat) * p2 i = (m : Rat) * p2 i - p2 i := by
      have h5 : m - 1 + 1 = m := by omega
      have h6 : ((m - 1 + 1 : Nat) : Rat) = (m : Rat) := by rw [h5]
      rw [Rat.natCast_add, nat1] at h6
      grind
    rw [hm1] at ha
    have hlow := ha (by grind)
    obtain ⟨K, last, -, k2, k3, k4, k5, k6, -, k8, k9⟩ := nearest_core false (2 * wh + s) (e - 1) (by omega) hvsmall
    rw [hsg, Rat.one_mul, ← er] at k2
    rw [← hvd, ← k2] at k9
    have hli : last ≤ i := by
      rcases (by omega : last ≤ i ∨ i + 1 ≤ last) with hh | hh
      · exact hh
      · exfalso
        rcases k6 with k6 | ⟨-, k6⟩
        · omega
        · have q : ((2 ^ 52 : Nat) : Rat) ≤ (K : Rat) := by exact_mod_cast k6
          have q1 := Rat.mul_le_mul_of_nonneg_right q (Rat.le_of_lt (p2_pos last))
          have q2 : p2 (i + 1) ≤ p2 last := p2_le hh
          have q3 := Rat.mul_le_mul_of_nonneg_left q2 (Rat.natCast_nonneg (a := 2 ^ 52))
          have q4 : (m : Rat) ≤ ((2 ^ 53 : Nat) : Rat) := by exact_mod_cast Nat.le_of_lt m2
          have q5 := Rat.mul_le_mul_of_nonneg_right q4 (Rat.le_of_lt (p2_pos i))
          have q6 : ((2 ^ 53 : Nat) : Rat) * p2 i = ((2 ^ 52 : Nat) : Rat) * p2 (i + 1) := by
            rw [p2_add, p2_one, show (2 ^ 53 : Nat) = 2 ^ 52 * 2 by decide, Rat.natCast_mul]
            have : ((2 : Nat) : Rat) = 2 := rfl
            rw [this]; grind
          grind
    obtain ⟨t', ht'⟩ := p2_shift hli
    have hcg : (m : Rat) * p2 i = ((m * 2 ^ t' : Nat) : Rat) * p2 last := by rw [ht', Rat.natCast_mul]; grind
    have hpl := p2_pos last
    have hK : K + 1 ≤ m * 2 ^ t' := by
      rcases Nat.lt_or_ge K (m * 2 ^ t') with hh | hh
      · exact hh
      · exfalso
        have q : ((m * 2 ^ t' : Nat) : Rat) ≤ (K : Rat) := by exact_mod_cast hh
        have q1 := Rat.mul_le_mul_of_nonneg_right q (Rat.le_of_lt hpl)
        grind
    have q : ((K + 1 : Nat) : Rat) ≤ ((m * 2 ^ t' : Nat) : Rat) := by exact_mod_cast hK
    have q1 := Rat.mul_le_mul_of_nonneg_right q (Rat.le_of_lt hpl)
    rw [Rat.natCast_add, nat1, ← hcg] at q1
    rcases (by omega : last = i ∨ last ≤ i - 1) with hl | hl
    · rw [hl] at q1 k9 k2
      grind
    · -- a finer step: then the word is 2^53 steps, one place below c
      have q2 : p2 last ≤ p2 (i - 1) := p2_le hl
      have q3 : (K : Rat) ≤ ((2 ^ 53 : Nat) : Rat) := by exact_mod_cast k5
      have q4 := Rat.mul_le_mul_of_nonneg_right q3 (Rat.le_of_lt hpl)
      have q5 := Rat.mul_le_mul_of_nonneg_left q2 (Rat.natCast_nonneg (a := 2 ^ 53))
      have q6 : ((2 ^ 53 : Nat) : Rat) * p2 (i - 1) = ((2 ^ 52 : Nat) : Rat) * p2 i := by
        rw [hpi, show (2 ^ 53 : Nat) = 2 ^ 52 * 2 by decide, Rat.natCast_mul]
        have : ((2 : Nat) : Rat) = 2 := rfl
        rw [this]; grind
      have q7 : ((2 ^ 52 + 1 : Nat) : Rat) ≤ (m : Rat) := by exact_mod_cast hm
      have q8 := Rat.mul_le_mul_of_nonneg_right q7 (Rat.le_of_lt (p2_pos i))
      rw [Rat.natCast_add, nat1] at q8
      grind
end FL
