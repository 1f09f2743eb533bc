/-
  Plain facts on IEEE double words, continued: the chroma of two numbers.
-/
import Derived.Test.YtafeeebgleecfaaFLS
import Derived.Test.YtafeeebgleecfaaFLJ
namespace FL
open Ieee
set_option linter.unusedVariables false
theorem norm_digits (x : Nat) (h : Finite x) (h0 : p2 (-400) ≤ val (mag x)) : ∃ (m : Nat) (i : Int), 2 ^ 52 ≤ m ∧ m < 2 ^ 53 ∧ -1000 ≤ i ∧ val (mag x) = (m : Rat) * p2 i := by
  obtain ⟨hx, hfin⟩ := h
  have hm : mag x = double.word false (x % 2 ^ 63) := by unfold mag Format.word; simp
  have hs1 : sg false = 1 := rfl
  have hhi : ¬ x % 2 ^ 63 < 2 ^ 52 := by
    intro hl
    have := mag_lt x 1 hx (by decide) (by decide) (by omega)
    have h1 : p2 (((1 : Nat) : Int) - 1023) ≤ p2 (-400) := p2_le (by decide)
    grind
  obtain ⟨k, f, hkf, hf, hk⟩ : ∃ k f, x % 2 ^ 63 = k * 2 ^ 52 + f ∧ f < 2 ^ 52 ∧ 1 ≤ k := ⟨x % 2 ^ 63 / 2 ^ 52, x % 2 ^ 63 % 2 ^ 52, by omega, by omega, by omega⟩
  have hv := (val_norm false k f hk (by omega) hf).2
  rw [hm, hkf] at h0 ⊢
  rw [hv, hs1, Rat.one_mul] at h0 ⊢
  refine ⟨2 ^ 52 + f, (k : Int) - 1075, by omega, by omega, ?_, rfl⟩
  rcases (by omega : -1000 ≤ (k : Int) - 1075 ∨ (k : Int) - 1075 < -1000) with h1 | h1
  · exact h1
  · exfalso
    have q : ((2 ^ 52 + f : Nat) : Rat) ≤ ((2 ^ 53 : Nat) : Rat) := by exact_mod_cast (by omega : 2 ^ 52 + f ≤ 2 ^ 53)
    have q2 := Rat.mul_le_mul_of_nonneg_right q (Rat.le_of_lt (p2_pos ((k : Int) - 1075)))
    rw [← p2_nat, ← p2_add] at q2
    have q3 : p2 (((53 : Nat) : Int) + ((k : Int) - 1075)) ≤ p2 (-900) := p2_le (by omega)
    have q4 : p2 (-900) < p2 (-400) := by
      have e : p2 (-400) = p2 (-900) * p2 500 := by rw [← p2_add]; rfl
      have e2 : p2 1 ≤ p2 500 := p2_le (by decide)
      rw [p2_one] at e2
      have e3 := p2_pos (-900)
      have e4 := Rat.mul_le_mul_of_nonneg_left e2 (Rat.le_of_lt e3)
      rw [e]; grind
    grind
/-- a word's square from below, as its root wants it -/
theorem sq_low (x A2 m : Nat) (i : Int) (h : Finite x) (hm1 : 2 ^ 52 ≤ m) (hm2 : m < 2 ^ 53) (hi : -1000 ≤ i) (hv : val (mag x) = (m : Rat) * p2 i) (h0 : p2 (-400) ≤ val (mag x)) (hb : val (mag x) ≤ p2 400) (hA : double.mul x x = some A2) :
    (m = 2 ^ 52 ∧ (m : Rat) * p2 i * ((m : Rat) * p2 i) ≤ val A2) ∨ (2 ^ 52 < m ∧ ((2 * m - 1 : Nat) : Rat) * p2 (i - 1) * (((2 * m - 1 : Nat) : Rat) * p2 (i - 1)) < val A2) := by
  have hsq : val x * val x = val (mag x) * val (mag x) := by
    rcases (mag_bounds x h.1).2.2.2 with e | e <;> rw [e] <;> grind
  have hpos := p2_pos (-400)
  have hi2 : -453 ≤ i := by
    rcases (by omega : -453 ≤ i ∨ i < -453) with h1 | h1
    · exact h1
    · exfalso
      have q : (m : Rat) ≤ ((2 ^ 53 : Nat) : Rat) := by exact_mod_cast Nat.le_of_lt hm2
      have q2 := Rat.mul_le_mul_of_nonneg_right q (Rat.le_of_lt (p2_pos i))
      rw [← p2_nat, ← p2_add] at q2
      have q3 : p2 (((53 : Nat) : Int) + i) ≤ p2 (-401) := p2_le (by omega)
      have q4 : p2 (-400) = 2 * p2 (-401) := half_p2 (-400)
      have q5 := p2_pos (-401)
      rw [hv] at h0
      grind
  have hbig : val (mag x) * val (mag x) ≤ p2 800 := by
    have := sq_le_sq (show 0 ≤ val (mag x) by grind) hb
    rw [← p2_add] at this; exact this
  have h8 : p2 800 < p2 1023 := by
    have e : p2 1023 = p2 800 * p2 223 := by rw [← p2_add]; rfl
    have e2 : p2 1 ≤ p2 223 := p2_le (by decide)
    rw [p2_one] at e2
    have e3 := p2_pos 800
    have e4 := Rat.mul_le_mul_of_nonneg_left e2 (Rat.le_of_lt e3)
    rw [e]; grind
  have hnn : 0 ≤ val (mag x) * val (mag x) := Rat.mul_nonneg (by grind) (by grind)
  rcases (by omega : m = 2 ^ 52 ∨ 2 ^ 52 < m) with hm | hm
  · left
    refine ⟨hm, ?_⟩
    have hp52 : (m : Rat) * p2 i = p2 (52 + i) := by rw [hm, ← p2_nat, ← p2_add]; rfl
    have hex : Exact (val x * val x) := by
      refine ⟨false, 1, (52 + i) + (52 + i), ?_, by decide, by omega, ?_⟩
      · rw [hsq, hv, hp52, ← p2_add]; have : sg false = 1 := rfl; rw [this]; have : ((1 : Nat) : Rat) = 1 := rfl; rw [this]; grind
      · have e1 : ((1 : Nat) : Rat) * p2 ((52 + i) + (52 + i)) = val (mag x) * val (mag x) := by rw [hv, hp52, ← p2_add]; have : ((1 : Nat) : Rat) = 1 := rfl; rw [this]; grind
        rw [e1]; grind
    obtain ⟨r, er, -, vr⟩ := mul_exact h h hex
    have : r = A2 := Option.some.inj (er.symm.trans hA)
    rw [← this, vr, hsq, hv]; exact Rat.le_refl
  · right
    refine ⟨hm, ?_⟩
    obtain ⟨r, er, -, rr⟩ := mul_ok x x h h (by rw [hsq]; grind) (by rw [hsq]; grind)
    have hrA : r = A2 := Option.some.inj (er.symm.trans hA)
    rw [hrA, hsq] at rr
    have hb2 := (rr (val (mag x) * val (mag x)) (by grind) Rat.le_refl).1
    have hu : u = 1 / 9007199254740992 := rfl
    rw [hu, hv] at hb2
    clear rr
    -- eta against the last place squared
    have hpi : p2 i = 2 * p2 (i - 1) := half_p2 i
    have hpp := p2_pos (i - 1)
    have heta : eta < p2 (i - 1) * p2 (i - 1) := by
      rw [← p2_add]
      have q : p2 (-1074) ≤ p2 (i - 1 + (i - 1)) := p2_le (by omega)
      have := eta_half
      have := eta_pos
      grind
    have hmm : ((2 * m - 1 : Nat) : Rat) = 2 * (m : Rat) - 1 := by
      have h5 : 2 * m - 1 + 1 = 2 * m := by omega
      have h6 : ((2 * m - 1 + 1 : Nat) : Rat) = ((2 * m : Nat) : Rat) := by rw [h5]
      rw [Rat.natCast_add, Rat.natCast_mul] at h6
      have h7 : ((2 : Nat) : Rat) = 2 := rfl
      have h8 : ((1 : Nat) : Rat) = 1 := rfl
      rw [h7, h8] at h6
      grind
    rw [hmm]
    rw [hpi] at hb2
    obtain ⟨Q, hQ⟩ : ∃ Q, Q = p2 (i - 1) * p2 (i - 1) := ⟨_, rfl⟩
    have hQp : 0 < Q := by rw [hQ]; exact Rat.mul_pos hpp hpp
    rw [← hQ] at heta
    -- m m / 2^53 <= m - 1/2
    have q1 : (m : Rat) ≤ 9007199254740991 := by
      have : ((m : Nat) : Rat) ≤ ((9007199254740991 : Nat) : Rat) := by exact_mod_cast (by omega : m ≤ 9007199254740991)
      rw [show ((9007199254740991 : Nat) : Rat) = 9007199254740991 by decide +kernel] at this; exact this
    have q0 : (4503599627370496 : Rat) ≤ (m : Rat) := by
      have : ((4503599627370496 : Nat) : Rat) ≤ ((m : Nat) : Rat) := by exact_mod_cast hm1
      rw [show ((4503599627370496 : Nat) : Rat) = 4503599627370496 by decide +kernel] at this; exact this
    have q2 : (m : Rat) * (m : Rat) ≤ 9007199254740991 * (m : Rat) := Rat.mul_le_mul_of_nonneg_right q1 (by grind)
    have q3 : (m : Rat) * (m : Rat) / 9007199254740992 ≤ (m : Rat) - 1 / 2 := by grind
    have q4 := Rat.mul_le_mul_of_nonneg_right q3 (Rat.le_of_lt hQp)
    have e1 : (2 * (m : Rat) - 1) * p2 (i - 1) * ((2 * (m : Rat) - 1) * p2 (i - 1)) = 4 * ((m : Rat) * (m : Rat)) * Q - 4 * (m : Rat) * Q + Q := by rw [hQ]; grind
    have e2 : (m : Rat) * (2 * p2 (i - 1)) * ((m : Rat) * (2 * p2 (i - 1))) = 4 * ((m : Rat) * (m : Rat)) * Q := by rw [hQ]; grind
    rw [e2] at hb2
    rw [e1]
    generalize (m : Rat) * (m : Rat) = MM at *
    have e3 : MM / 9007199254740992 * Q = 1 / 9007199254740992 * (MM * Q) := by grind
    have e4 : 4 * MM * Q = 4 * (MM * Q) := by grind
    have e5 : 4 * (m : Rat) * Q = 4 * ((m : Rat) * Q) := by grind
    have e6 : ((m : Rat) - 1 / 2) * Q = (m : Rat) * Q - Q / 2 := by grind
    rw [e3, e6] at q4
    rw [e4] at hb2 ⊢
    rw [e5]
    clear e1 e2 e3 e4 e5 e6 q3 q2 hQ
    generalize MM * Q = Z at *
    generalize (m : Rat) * Q = Y at *
    grind
def Zone (x : Nat) : Prop := Finite x ∧ (val x = 0 ∨ (p2 (-400) ≤ val (mag x) ∧ val (mag x) ≤ p2 400))
theorem zone_mag {x : Nat} (h : Zone x) : 0 ≤ val (mag x) ∧ val (mag x) ≤ p2 400 ∧ val x * val x = val (mag x) * val (mag x) := by
  have hb := mag_bounds x h.1.1
  have hp := p2_pos 400
  refine ⟨hb.1, ?_, ?_⟩
  · rcases h.2 with e | ⟨-, e⟩
    · rcases hb.2.2.2 with e' | e' <;> rw [e', e] <;> grind
    · exact e
  · rcases hb.2.2.2 with e | e <;> rw [e] <;> grind
theorem small_pos : 2 * eta < p2 (-400) * p2 (-400) / 9007199254740992 := by
  have h1 : p2 (-400) * p2 (-400) = p2 (-800) := by rw [← p2_add]; rfl
  have h2 : p2 (-800) = p2 (-1074) * p2 274 := by rw [← p2_add]; rfl
  have h3 : p2 100 ≤ p2 274 := p2_le (by decide)
  have h4 : p2 100 = 1267650600228229401496703205376 := by decide +kernel
  have h5 := p2_pos (-1074)
  have h6 := Rat.mul_le_mul_of_nonneg_left h3 (Rat.le_of_lt h5)
  have h7 := eta_half
  rw [h1, h2, h7]
  rw [h4] at h6
  grind
theorem sqrt_zero (x : Nat) (h : Finite x) (h0 : val x = 0) : ∃ r, double.sqrt x = some r ∧ Finite r ∧ val r = 0 := by
  obtain ⟨s, m, i, hr, hm, hi, hi2⟩ := read_fin x h
  have hv : val x = sg s * ((m : Rat) * p2 i) := by simp [val, hr, dval]
  have hm0 : m = 0 := by
    rw [h0] at hv
    have : (m : Rat) * p2 i = 0 := by rcases sg_cases s with e | e <;> rw [e] at hv <;> grind
    exact mp_zero this
  subst hm0
  have hq : double.sqrt x = some (double.nearest s 0 i) := by
    simp only [Format.sqrt, hr, Datum.root, if_true, Option.map_some]
    rfl
  refine ⟨_, hq, ?_⟩
  have e : double.nearest s 0 i = double.word s 0 := by simp [Format.nearest]
  rw [e]; exact word_zero s
theorem big_p2 : p2 400 * p2 400 * 8 < p2 1000 ∧ p2 1000 < p2 1023 := by
  have h1 : p2 400 * p2 400 = p2 800 := by rw [← p2_add]; rfl
  have h2 : p2 1000 = p2 800 * p2 200 := by rw [← p2_add]; rfl
  have h3 : p2 4 ≤ p2 200 := p2_le (by decide)
  have h4 : p2 4 = 16 := by decide +kernel
  have h5 := p2_pos 800
  have h6 := Rat.mul_le_mul_of_nonneg_left h3 (Rat.le_of_lt h5)
  have h7 : p2 1023 = p2 1000 * p2 23 := by rw [← p2_add]; rfl
  have h8 : p2 1 ≤ p2 23 := p2_le (by decide)
  have h9 := p2_pos 1000
  have h10 := Rat.mul_le_mul_of_nonneg_left h8 (Rat.le_of_lt h9)
  rw [p2_one] at h10
  rw [h4] at h6
  rw [h1]
  exact ⟨by grind, by grind⟩
/-- a square -/
theorem sq58 (a : Nat) (ha : Zone a) : ∃ a2, double.mul a a = some a2 ∧ Finite a2 ∧ 0 ≤ val a2 ∧ val a2 ≤ val (mag a) * val (mag a) * (1 + 1 / 9007199254740992) + eta ∧ val (mag a) * val (mag a) * (1 - 1 / 9007199254740992) - eta ≤ val a2 ∧ val (mag a) * val (mag a) ≤ p2 400 * p2 400 := by
  obtain ⟨h1, h2, h3⟩ := zone_mag ha
  obtain ⟨B1, B2⟩ := big_p2
  have hsq := sq_le_sq h1 h2
  have hnn := Rat.mul_nonneg h1 h1
  have hp := Rat.mul_pos (p2_pos 400) (p2_pos 400)
  obtain ⟨a2, e1, f1, r1⟩ := mul_ok a a ha.1 ha.1 (by rw [h3]; grind) (by rw [h3]; grind)
  rw [h3] at r1
  have s1 := r1 (val (mag a) * val (mag a)) (by grind) Rat.le_refl
  have hu : u = 1 / 9007199254740992 := rfl
  rw [hu] at s1
  clear r1
  have h0 : 0 ≤ val a2 := by
    obtain ⟨b, kk, i, e, v⟩ := mul_form ha.1 ha.1
    rw [h3] at v
    replace e := Option.some.inj (e1.symm.trans e)
    have h0 := (form_bound (c := 0) (j := 0) v (by grind) (by grind) (by decide) (by decide)).2.2.2
    have z : ((0 : Nat) : Rat) * p2 0 = 0 := Rat.zero_mul _
    rw [z, ← e] at h0
    exact h0 hnn
  generalize val (mag a) * val (mag a) = S at *
  exact ⟨a2, e1, f1, h0, by grind, by grind, hsq⟩
theorem mag_zero {x : Nat} (h : Finite x) (h0 : val x = 0) : val (mag x) = 0 := by
  rcases (mag_bounds x h.1).2.2.2 with e | e <;> rw [e, h0]
  grind
theorem chroma58 (a b : Nat) (ha : Zone a) (hb : Zone b) :
    ∃ a2 b2 s2 c, double.mul a a = some a2 ∧ double.mul b b = some b2 ∧ double.add a2 b2 = some s2 ∧ double.sqrt s2 = some c ∧ Finite c ∧ val (mag a) ≤ val c ∧ val (mag b) ≤ val c ∧ val c ≤ (val (mag a) + val (mag b)) * (1 + 5 / 9007199254740992) ∧ (val a = 0 → val b = 0 → val c = 0) := by
  obtain ⟨a2, e1, f1, p1, q1, t1, w1⟩ := sq58 a ha
  obtain ⟨b2, e2, f2, p2', q2, t2, w2⟩ := sq58 b hb
  obtain ⟨x0, -, -⟩ := zone_mag ha
  obtain ⟨z0, -, -⟩ := zone_mag hb
  obtain ⟨B1, B2⟩ := big_p2
  have hu : u = 1 / 9007199254740992 := rfl
  have he := eta_nano
  have he0 := eta_pos
  have hpp : 1 ≤ p2 400 * p2 400 := by
    have h1 : p2 0 ≤ p2 400 := p2_le (by decide)
    rw [p2_zero] at h1
    have := sq_le_sq (show (0 : Rat) ≤ 1 by decide +kernel) h1
    grind
  obtain ⟨s2, e3, f3, r3⟩ := add_ok a2 b2 f1 f2 (by grind) (by grind)
  have s3 := r3 (val a2 + val b2) (by grind) Rat.le_refl
  rw [hu] at s3
  have lowS : val a2 ≤ val s2 ∧ val b2 ≤ val s2 := by
    obtain ⟨bb, kk, i, e, -, v⟩ := add_form f1 f2
    replace e := Option.some.inj (e3.symm.trans e)
    obtain ⟨c1, j1, hc1, hj1, -, hv1⟩ := digits f1 p1
    obtain ⟨c2, j2, hc2, hj2, -, hv2⟩ := digits f2 p2'
    have g1 := (form_bound (c := c1) (j := j1) v (by grind) (by grind) hc1 hj1).2.2.2
    have g2 := (form_bound (c := c2) (j := j2) v (by grind) (by grind) hc2 hj2).2.2.2
    rw [← hv1, ← e] at g1
    rw [← hv2, ← e] at g2
    exact ⟨g1 (by grind), g2 (by grind)⟩
  have hs0 : 0 ≤ val s2 := by grind
  have hsb : val s2 ≤ p2 1000 := by clear r3; grind
  clear r3
  by_cases hz : val a = 0 ∧ val b = 0
  · have ma := mag_zero ha.1 hz.1
    have mb := mag_zero hb.1 hz.2
    -- both zero: everything is zero
    have za : val a2 = 0 := by
      have hx : Exact (val a * val a) := by rw [hz.1, Rat.mul_zero]; exact exact_int 0 (by decide)
      obtain ⟨r, er, -, vr⟩ := mul_exact ha.1 ha.1 hx
      have : r = a2 := Option.some.inj (er.symm.trans e1)
      rw [← this, vr, hz.1]; grind
    have zb : val b2 = 0 := by
      have hx : Exact (val b * val b) := by rw [hz.2, Rat.mul_zero]; exact exact_int 0 (by decide)
      obtain ⟨r, er, -, vr⟩ := mul_exact hb.1 hb.1 hx
      have : r = b2 := Option.some.inj (er.symm.trans e2)
      rw [← this, vr, hz.2]; grind
    have zs : val s2 = 0 := by rw [za, zb] at s3; grind
    obtain ⟨c, e4, f4, v4⟩ := sqrt_zero s2 f3 zs
    rw [ma, mb]
    exact ⟨a2, b2, s2, c, e1, e2, e3, e4, f4, by grind, by grind, by grind, fun _ _ => v4⟩
  · have hsm := small_pos
    have hpm := Rat.mul_pos (p2_pos (-400)) (p2_pos (-400))
    -- one of the two is in its range
    have hbigS : p2 (-400) * p2 (-400) ≤ val (mag a) * val (mag a) ∨ p2 (-400) * p2 (-400) ≤ val (mag b) * val (mag b) := by
      rcases ha.2 with h | ⟨h, -⟩
      · rcases hb.2 with h' | ⟨h', -⟩
        · exact absurd ⟨h, h'⟩ hz
        · exact .inr (sq_le_sq (Rat.le_of_lt (p2_pos _)) h')
      · exact .inl (sq_le_sq (Rat.le_of_lt (p2_pos _)) h)
    have hna := Rat.mul_nonneg x0 x0
    have hnb := Rat.mul_nonneg z0 z0
    have hnab := Rat.mul_nonneg x0 z0
    have hspos : 0 < val s2 := by
      clear w1 w2 B1 B2 hpp hsb
      rcases hbigS with h | h <;> grind
    obtain ⟨Y, hY⟩ : ∃ Y, Y = (val (mag a) + val (mag b)) * (1 + 2 / 9007199254740992) := ⟨_, rfl⟩
    have hYY : val s2 ≤ Y * Y := by
      have eY : Y * Y = (val (mag a) * val (mag a) + 2 * (val (mag a) * val (mag b)) + val (mag b) * val (mag b)) * ((1 + 2 / 9007199254740992) * (1 + 2 / 9007199254740992)) := by rw [hY]; grind
      rw [eY]
      clear eY hY w1 w2 B1 B2 hpp hsb
      generalize val (mag a) * val (mag a) = SA at *
      generalize val (mag b) * val (mag b) = SB at *
      generalize val (mag a) * val (mag b) = SC at *
      rcases hbigS with h | h <;> grind
    have hsq : ∃ c, double.sqrt s2 = some c := by
      obtain ⟨n, wh, s, e, hq, -⟩ := sqrt_form s2 f3 hspos
      exact ⟨_, hq⟩
    obtain ⟨c, e4⟩ := hsq
    obtain ⟨f4, c0, c1⟩ := sqrt_upper s2 c f3 hspos hsb e4 Y (by rw [hY]; exact Rat.mul_nonneg (by grind) (by decide +kernel)) hYY
    have lowX : ∀ (x x2 : Nat), Zone x → double.mul x x = some x2 → val x2 ≤ val s2 → val (mag x) ≤ val c := by
      intro x x2 hx hx2 hle
      rcases hx.2 with h | ⟨h, h'⟩
      · rw [mag_zero hx.1 h]; exact c0
      · obtain ⟨m, i, m1, m2, hi, hv⟩ := norm_digits x hx.1 h
        rw [hv]
        refine sqrt_lower s2 c m i f3 hspos hsb e4 m1 m2 hi ?_
        rcases sq_low x x2 m i hx.1 m1 m2 hi hv h h' hx2 with ⟨g1, g2⟩ | ⟨g1, g2⟩
        · exact .inl ⟨g1, by grind⟩
        · exact .inr ⟨g1, by grind⟩
    have low1 := lowX a a2 ha e1 lowS.1
    have low2 := lowX b b2 hb e2 lowS.2
    refine ⟨a2, b2, s2, c, e1, e2, e3, e4, f4, low1, low2, ?_, fun h1 h2 => absurd ⟨h1, h2⟩ hz⟩
    have hbase : p2 (-400) ≤ val (mag a) + val (mag b) := by
      rcases ha.2 with h | ⟨h, -⟩
      · rcases hb.2 with h' | ⟨h', -⟩
        · exact absurd ⟨h, h'⟩ hz
        · grind
      · grind
    have hee : eta ≤ p2 (-400) / 9007199254740992 / 9007199254740992 := by
      have g1 : p2 (-400) = p2 (-1074) * p2 674 := by rw [← p2_add]; rfl
      have g2 : p2 110 ≤ p2 674 := p2_le (by decide)
      have g3 : p2 110 = 1298074214633706907132624082305024 := by decide +kernel
      have g4 := Rat.mul_le_mul_of_nonneg_left g2 (Rat.le_of_lt (p2_pos (-1074)))
      have g5 := eta_half
      rw [g3] at g4
      rw [g1]
      clear c1 hYY hY q1 q2 t1 t2 w1 w2 B1 B2 s3 hbigS
      grind
    rw [hY] at c1
    clear hYY hY q1 q2 t1 t2 w1 w2 B1 B2 s3 hbigS hna hnb hnab hsm hpm
    generalize val (mag a) + val (mag b) = X at *
    grind
end FL
