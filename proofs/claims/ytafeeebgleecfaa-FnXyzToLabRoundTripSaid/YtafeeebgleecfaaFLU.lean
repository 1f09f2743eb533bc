/-
  Plain facts on IEEE double words, continued: the numbers of math.xatan (printed by xatgen.py).
-/
import Derived.Test.YtafeeebgleecfaaFLS
namespace FL
open Ieee
set_option linter.unusedVariables false
theorem mulI {a b A0 A1 B : Rat} (h1 : A0 ≤ a) (h2 : a ≤ A1) (z0 : A0 ≤ 0) (z1 : 0 ≤ A1) (b0 : 0 ≤ b) (b1 : b ≤ B) : A0 * B ≤ a * b ∧ a * b ≤ A1 * B := by
  have q1 := Rat.mul_le_mul_of_nonneg_right h1 b0
  have q2 := Rat.mul_le_mul_of_nonneg_right h2 b0
  have q3 := Rat.mul_le_mul_of_nonneg_left b1 z1
  have q4 := Rat.mul_le_mul_of_nonneg_left b1 (show 0 ≤ -A0 by grind)
  exact ⟨by grind, by grind⟩
/-- a sum within bounds -/
theorem addI (x y : Nat) (fx : Finite x) (fy : Finite y) (lo hi : Rat) (h1 : lo ≤ val x + val y) (h2 : val x + val y ≤ hi) (l : -1000 ≤ lo) (h : hi ≤ 1000) : ∃ r, double.add x y = some r ∧ Finite r ∧ lo - 1 / 1000000000000 ≤ val r ∧ val r ≤ hi + 1 / 1000000000000 := by
  obtain ⟨b22, b23⟩ := big1022
  have hu : u = 1 / 9007199254740992 := rfl
  obtain ⟨r, e, f, rr⟩ := add_ok x y fx fy (by grind) (by grind)
  have s := rr 1000 (by grind) (by grind)
  rw [hu] at s
  exact ⟨r, e, f, by grind, by grind⟩
theorem mulW (x y : Nat) (fx : Finite x) (fy : Finite y) (lo hi : Rat) (h1 : lo ≤ val x * val y) (h2 : val x * val y ≤ hi) (l : -1000 ≤ lo) (h : hi ≤ 1000) : ∃ r, double.mul x y = some r ∧ Finite r ∧ lo - 1 / 1000000000000 ≤ val r ∧ val r ≤ hi + 1 / 1000000000000 := by
  obtain ⟨b22, b23⟩ := big1022
  have hu : u = 1 / 9007199254740992 := rfl
  have he := eta_nano
  have he0 := eta_pos
  obtain ⟨r, e, f, rr⟩ := mul_ok x y fx fy (by grind) (by grind)
  have s := rr 1000 (by grind) (by grind)
  rw [hu] at s
  exact ⟨r, e, f, by grind, by grind⟩
theorem kP0 : Finite 13829429103926125972 ∧ (-877 / 1000) ≤ val 13829429103926125972 ∧ val 13829429103926125972 ≤ (-873 / 1000) := by refine ⟨?_, ?_, ?_⟩ <;> decide +kernel
theorem kP1 : Finite 13848613196940411002 ∧ (-16159 / 1000) ≤ val 13848613196940411002 ∧ val 13848613196940411002 ≤ (-3231 / 200) := by refine ⟨?_, ?_, ?_⟩ <;> decide +kernel
theorem kP2 : Finite 13858350711815275123 ∧ (-7501 / 100) ≤ val 13858350711815275123 ∧ val 13858350711815275123 ≤ (-37503 / 500) := by refine ⟨?_, ?_, ?_⟩ <;> decide +kernel
theorem kP3 : Finite 13861719834326579749 ∧ (-15361 / 125) ≤ val 13861719834326579749 ∧ val 13861719834326579749 ≤ (-30721 / 250) := by refine ⟨?_, ?_, ?_⟩ <;> decide +kernel
theorem kP4 : Finite 13857635882265799822 ∧ (-16213 / 250) ≤ val 13857635882265799822 ∧ val 13857635882265799822 ≤ (-8106 / 125) := by refine ⟨?_, ?_, ?_⟩ <;> decide +kernel
theorem kQ0 : Finite 4627690253511319612 ∧ (3107 / 125) ≤ val 4627690253511319612 ∧ val 4627690253511319612 ≤ (1243 / 50) := by refine ⟨?_, ?_, ?_⟩ <;> decide +kernel
theorem kQ1 : Finite 4640010388282866213 ∧ (6601 / 40) ≤ val 4640010388282866213 ∧ val 4640010388282866213 ≤ (165029 / 1000) := by refine ⟨?_, ?_, ?_⟩ <;> decide +kernel
theorem kQ2 : Finite 4646322940342877755 ∧ (432879 / 1000) ≤ val 4646322940342877755 ∧ val 4646322940342877755 ≤ (432883 / 1000) := by refine ⟨?_, ?_, ?_⟩ <;> decide +kernel
theorem kQ3 : Finite 4647246694406179306 ∧ (121347 / 250) ≤ val 4647246694406179306 ∧ val 4647246694406179306 ≤ (60674 / 125) := by refine ⟨?_, ?_, ?_⟩ <;> decide +kernel
theorem kQ4 : Finite 4641049159275471596 ∧ (48637 / 250) ≤ val 4641049159275471596 ∧ val 4641049159275471596 ≤ (24319 / 125) := by refine ⟨?_, ?_, ?_⟩ <;> decide +kernel
set_option maxHeartbeats 4000000 in
theorem xatan58 (x : Nat) (fx : Finite x) (h1 : -67 / 100 ≤ val x) (h2 : val x ≤ 67 / 100) :
    ∃ z0 pa1 pa2 pa3 pa4 pa5 pa6 pa7 pa8 nu q1 q2 q3 q4 q5 q6 q7 q8 q9 w p z, double.mul x x = some z0 ∧ double.mul 13829429103926125972 z0 = some pa1 ∧ double.add pa1 13848613196940411002 = some pa2 ∧ double.mul pa2 z0 = some pa3 ∧ double.add pa3 13858350711815275123 = some pa4 ∧ double.mul pa4 z0 = some pa5 ∧ double.add pa5 13861719834326579749 = some pa6 ∧ double.mul pa6 z0 = some pa7 ∧ double.add pa7 13857635882265799822 = some pa8 ∧ double.mul z0 pa8 = some nu ∧ double.add z0 4627690253511319612 = some q1 ∧ double.mul q1 z0 = some q2 ∧ double.add q2 4640010388282866213 = some q3 ∧ double.mul q3 z0 = some q4 ∧ double.add q4 4646322940342877755 = some q5 ∧ double.mul q5 z0 = some q6 ∧ double.add q6 4647246694406179306 = some q7 ∧ double.mul q7 z0 = some q8 ∧ double.add q8 4641049159275471596 = some q9 ∧ double.div nu q9 = some w ∧ double.mul x w = some p ∧ double.add p x = some z ∧ Finite z ∧ -7 / 10 ≤ val z ∧ val z ≤ 7 / 10 ∧ (0 ≤ val x → val z ≤ val x + 1 / 1000000000) ∧ (val x ≤ 0 → val x - 1 / 1000000000 ≤ val z) ∧ (p2 (-900) ≤ val x → 0 < val z) := by
  obtain ⟨b22, b23⟩ := big1022
  have hu : u = 1 / 9007199254740992 := rfl
  have he := eta_nano
  have he0 := eta_pos
  obtain ⟨fP0, lP0, uP0⟩ := kP0
  obtain ⟨fP1, lP1, uP1⟩ := kP1
  obtain ⟨fP2, lP2, uP2⟩ := kP2
  obtain ⟨fP3, lP3, uP3⟩ := kP3
  obtain ⟨fP4, lP4, uP4⟩ := kP4
  obtain ⟨fQ0, lQ0, uQ0⟩ := kQ0
  obtain ⟨fQ1, lQ1, uQ1⟩ := kQ1
  obtain ⟨fQ2, lQ2, uQ2⟩ := kQ2
  obtain ⟨fQ3, lQ3, uQ3⟩ := kQ3
  obtain ⟨fQ4, lQ4, uQ4⟩ := kQ4
  have hxx : 0 ≤ val x * val x ∧ val x * val x ≤ 449 / 1000 := by
    rcases (by grind : 0 ≤ val x ∨ val x ≤ 0) with h | h
    · exact ⟨Rat.mul_nonneg h h, by have := sq_le_sq h h2; grind⟩
    · have h' : 0 ≤ -val x := by grind
      have := sq_le_sq h' (show -val x ≤ 67 / 100 by grind)
      have := Rat.mul_nonneg h' h'
      exact ⟨by grind, by grind⟩
  obtain ⟨z0, e0, f0, r0⟩ := mul_ok x x fx fx (by grind) (by grind)
  have s0 := r0 1 (by grind) (by grind)
  rw [hu] at s0
  clear r0
  have z00 : 0 ≤ val z0 := by
    obtain ⟨b, kk, i, e, v⟩ := mul_form fx fx
    replace e := Option.some.inj (e0.symm.trans e)
    have h0 := (form_bound (c := 0) (j := 0) v (by grind) (by grind) (by decide) (by decide)).2.2.2
    have z : ((0 : Nat) : Rat) * p2 0 = 0 := Rat.zero_mul _
    rw [z, ← e] at h0
    exact h0 hxx.1
  have z01 : val z0 ≤ 45 / 100 := by grind
  clear s0 hxx
  have ip1 := mulI (a := val 13829429103926125972) (b := val z0) (A0 := (-877 / 1000)) (A1 := 0) (B := 45 / 100) (by grind) (by grind) (by decide +kernel) (by decide +kernel) z00 z01
  obtain ⟨pa1, epa1, fpa1, lpa1, upa1⟩ := mulW 13829429103926125972 z0 fP0 f0 (-7893 / 20000) (0) (by grind) (by grind) (by decide +kernel) (by decide +kernel)
  clear ip1
  obtain ⟨pa2, epa2, fpa2, lpa2, upa2⟩ := addI pa1 13848613196940411002 fpa1 fP1 (-16553650000001 / 1000000000000) (-16154999999999 / 1000000000000) (by grind) (by grind) (by decide +kernel) (by decide +kernel)
  have ipa3 := mulI (a := val pa2) (b := val z0) (A0 := (-8276825000001 / 500000000000)) (A1 := (0)) (B := 45 / 100) (by grind) (by grind) (by decide +kernel) (by decide +kernel) z00 z01
  obtain ⟨pa3, epa3, fpa3, lpa3, upa3⟩ := mulW pa2 z0 fpa2 f0 (-74491425000009 / 10000000000000) (0) (by grind) (by grind) (by decide +kernel) (by decide +kernel)
  clear ipa3
  obtain ⟨pa4, epa4, fpa4, lpa4, upa4⟩ := addI pa3 13858350711815275123 fpa3 fP2 (-824591425000019 / 10000000000000) (-75005999999999 / 1000000000000) (by grind) (by grind) (by decide +kernel) (by decide +kernel)
  have ipa5 := mulI (a := val pa4) (b := val z0) (A0 := (-824591425000029 / 10000000000000)) (A1 := (0)) (B := 45 / 100) (by grind) (by grind) (by decide +kernel) (by decide +kernel) z00 z01
  obtain ⟨pa5, epa5, fpa5, lpa5, upa5⟩ := mulW pa4 z0 fpa4 f0 (-7421322825000261 / 200000000000000) (0) (by grind) (by grind) (by decide +kernel) (by decide +kernel)
  clear ipa5
  obtain ⟨pa6, epa6, fpa6, lpa6, upa6⟩ := addI pa5 13861719834326579749 fpa5 fP3 (-31998922825000461 / 200000000000000) (-122883999999999 / 1000000000000) (by grind) (by grind) (by decide +kernel) (by decide +kernel)
  have ipa7 := mulI (a := val pa6) (b := val z0) (A0 := (-31998922825000661 / 200000000000000)) (A1 := (0)) (B := 45 / 100) (by grind) (by grind) (by decide +kernel) (by decide +kernel) z00 z01
  obtain ⟨pa7, epa7, fpa7, lpa7, upa7⟩ := mulW pa6 z0 fpa6 f0 (-287990305425005949 / 4000000000000000) (0) (by grind) (by grind) (by decide +kernel) (by decide +kernel)
  clear ipa7
  obtain ⟨pa8, epa8, fpa8, lpa8, upa8⟩ := addI pa7 13857635882265799822 fpa7 fP4 (-547398305425009949 / 4000000000000000) (-64847999999999 / 1000000000000) (by grind) (by grind) (by decide +kernel) (by decide +kernel)
  have inu := mulI (a := val pa8) (b := val z0) (A0 := (-547398305425013949 / 4000000000000000)) (A1 := (0)) (B := 45 / 100) (by grind) (by grind) (by decide +kernel) (by decide +kernel) z00 z01
  have jnu : val z0 * val pa8 = val pa8 * val z0 := Rat.mul_comm _ _
  obtain ⟨nu, enu, fnu, lnu, unu⟩ := mulW z0 pa8 f0 fpa8 (-4926584748825125541 / 80000000000000000) (0) (by grind) (by grind) (by decide +kernel) (by decide +kernel)
  clear inu jnu
  clear lpa1 upa1 lpa2 upa2 lpa3 upa3 lpa4 upa4 lpa5 upa5 lpa6 upa6 lpa7 upa7 lpa8 upa8 lP0 uP0 lP1 uP1 lP2 uP2 lP3 uP3 lP4 uP4
  obtain ⟨q1, eq1, fq1, lq1, uq1⟩ := addI z0 4627690253511319612 f0 fQ0 (3107 / 125) (2531 / 100) (by grind) (by grind) (by decide +kernel) (by decide +kernel)
  have iq2 := mulI (a := val q1) (b := val z0) (A0 := (0)) (A1 := (25310000000001 / 1000000000000)) (B := 45 / 100) (by grind) (by grind) (by decide +kernel) (by decide +kernel) z00 z01
  obtain ⟨q2, eq2, fq2, lq2, uq2⟩ := mulW q1 z0 fq1 f0 (0) (227790000000009 / 20000000000000) (by grind) (by grind) (by decide +kernel) (by decide +kernel)
  clear iq2
  obtain ⟨q3, eq3, fq3, lq3, uq3⟩ := addI q2 4640010388282866213 fq2 fQ1 (165024999999999 / 1000000000000) (3528370000000029 / 20000000000000) (by grind) (by grind) (by decide +kernel) (by decide +kernel)
  have iq4 := mulI (a := val q3) (b := val z0) (A0 := (0)) (A1 := (3528370000000049 / 20000000000000)) (B := 45 / 100) (by grind) (by grind) (by decide +kernel) (by decide +kernel) z00 z01
  obtain ⟨q4, eq4, fq4, lq4, uq4⟩ := mulW q3 z0 fq3 f0 (0) (31755330000000441 / 400000000000000) (by grind) (by grind) (by decide +kernel) (by decide +kernel)
  clear iq4
  obtain ⟨q5, eq5, fq5, lq5, uq5⟩ := addI q4 4646322940342877755 fq4 fQ2 (432878999999999 / 1000000000000) (204908530000000841 / 400000000000000) (by grind) (by grind) (by decide +kernel) (by decide +kernel)
  have iq6 := mulI (a := val q5) (b := val z0) (A0 := (0)) (A1 := (204908530000001241 / 400000000000000)) (B := 45 / 100) (by grind) (by grind) (by decide +kernel) (by decide +kernel) z00 z01
  obtain ⟨q6, eq6, fq6, lq6, uq6⟩ := mulW q5 z0 fq5 f0 (0) (1844176770000011169 / 8000000000000000) (by grind) (by grind) (by decide +kernel) (by decide +kernel)
  clear iq6
  obtain ⟨q7, eq7, fq7, lq7, uq7⟩ := addI q6 4647246694406179306 fq6 fQ3 (485387999999999 / 1000000000000) (5727312770000019169 / 8000000000000000) (by grind) (by grind) (by decide +kernel) (by decide +kernel)
  have iq8 := mulI (a := val q7) (b := val z0) (A0 := (0)) (A1 := (5727312770000027169 / 8000000000000000)) (B := 45 / 100) (by grind) (by grind) (by decide +kernel) (by decide +kernel) z00 z01
  obtain ⟨q8, eq8, fq8, lq8, uq8⟩ := mulW q7 z0 fq7 f0 (0) (51545814930000244521 / 160000000000000000) (by grind) (by grind) (by decide +kernel) (by decide +kernel)
  clear iq8
  obtain ⟨q9, eq9, fq9, lq9, uq9⟩ := addI q8 4641049159275471596 fq8 fQ4 (194547999999999 / 1000000000000) (82674134930000404521 / 160000000000000000) (by grind) (by grind) (by decide +kernel) (by decide +kernel)
  clear lq1 uq1 lq2 uq2 lq3 uq3 lq4 uq4 lq5 uq5 lq6 uq6 lq7 uq7 lq8 uq8 lQ0 uQ0 lQ1 uQ1 lQ2 uQ2 lQ3 uQ3 lQ4 uQ4
  have hq0 : 194 ≤ val q9 := by grind
  have hqn : val q9 ≠ 0 := by grind
  obtain ⟨v, hv⟩ : ∃ v, v = val nu / val q9 := ⟨_, rfl⟩
  have hvq : v * val q9 = val nu := by rw [hv]; exact Rat.div_mul_cancel hqn
  have v1 : -33 / 100 ≤ v := mul_le_cancel (show 0 < val q9 by grind) (by rw [hvq]; grind)
  have v2 : v ≤ 1 / 10000000000 := mul_le_cancel (show 0 < val q9 by grind) (by rw [hvq]; grind)
  obtain ⟨w, ew, fw, rw_⟩ := div_ok nu q9 fnu fq9 hqn v hvq (by grind) (by grind)
  have sw := rw_ 1 (by grind) (by grind)
  rw [hu] at sw
  clear rw_
  have w1 : -34 / 100 ≤ val w := by grind
  have w2 : val w ≤ 1 / 5000000000 := by grind
  clear sw v1 v2 hvq hv hqn hq0
  have hxw : -1 ≤ val x * val w ∧ val x * val w ≤ 1 := by
    rcases (by grind : 0 ≤ val x ∨ val x ≤ 0) with h | h
    · have := mulI (a := val w) (b := val x) (A0 := -34 / 100) (A1 := 1 / 5000000000) (B := 67 / 100) w1 w2 (by decide +kernel) (by decide +kernel) h h2
      exact ⟨by grind, by grind⟩
    · have := mulI (a := val w) (b := -val x) (A0 := -34 / 100) (A1 := 1 / 5000000000) (B := 67 / 100) w1 w2 (by decide +kernel) (by decide +kernel) (by grind) (by grind)
      exact ⟨by grind, by grind⟩
  obtain ⟨p, ep, fp, rp⟩ := mul_ok x w fx fw (by grind) (by grind)
  have sp := rp 1 (by grind) (by grind)
  rw [hu] at sp
  obtain ⟨z, ez, fz, rz⟩ := add_ok p x fp fx (by grind) (by grind)
  have sz := rz 2 (by grind) (by grind)
  rw [hu] at sz
  refine ⟨z0, pa1, pa2, pa3, pa4, pa5, pa6, pa7, pa8, nu, q1, q2, q3, q4, q5, q6, q7, q8, q9, w, p, z, e0, epa1, epa2, epa3, epa4, epa5, epa6, epa7, epa8, enu, eq1, eq2, eq3, eq4, eq5, eq6, eq7, eq8, eq9, ew, ep, ez, fz, ?_, ?_, ?_, ?_, ?_⟩
  · clear rp rz
    rcases (by grind : 0 ≤ val x ∨ val x ≤ 0) with h | h
    · have := mulI (a := val w) (b := val x) (A0 := -34 / 100) (A1 := 1 / 5000000000) (B := 67 / 100) w1 w2 (by decide +kernel) (by decide +kernel) h h2
      grind
    · have := mulI (a := val w) (b := -val x) (A0 := -34 / 100) (A1 := 1 / 5000000000) (B := 67 / 100) w1 w2 (by decide +kernel) (by decide +kernel) (by grind) (by grind)
      grind
  · clear rp rz
    rcases (by grind : 0 ≤ val x ∨ val x ≤ 0) with h | h
    · have := mulI (a := val w) (b := val x) (A0 := -34 / 100) (A1 := 1 / 5000000000) (B := 67 / 100) w1 w2 (by decide +kernel) (by decide +kernel) h h2
      grind
    · have := mulI (a := val w) (b := -val x) (A0 := -34 / 100) (A1 := 1 / 5000000000) (B := 67 / 100) w1 w2 (by decide +kernel) (by decide +kernel) (by grind) (by grind)
      have q := Rat.mul_le_mul_of_nonneg_right (show -val w ≤ 34 / 100 by grind) (show 0 ≤ -val x by grind)
      grind
  · intro h
    clear rp rz
    have := mulI (a := val w) (b := val x) (A0 := -34 / 100) (A1 := 1 / 5000000000) (B := 67 / 100) w1 w2 (by decide +kernel) (by decide +kernel) h h2
    grind
  · intro h
    clear rp rz
    have := mulI (a := val w) (b := -val x) (A0 := -34 / 100) (A1 := 1 / 5000000000) (B := 67 / 100) w1 w2 (by decide +kernel) (by decide +kernel) (by grind) (by grind)
    grind
  · intro h
    have hp := p2_pos (-900)
    have hx0 : 0 ≤ val x := by grind
    have q1 := Rat.mul_le_mul_of_nonneg_right w1 hx0
    have q2 := Rat.mul_le_mul_of_nonneg_right w2 hx0
    have sp2 := (rp (val x) (by grind) (by grind)).1
    rw [hu] at sp2
    have heta : eta ≤ val x / 1000 := by
      have g1 : p2 (-900) = p2 (-1074) * p2 174 := by rw [← p2_add]; rfl
      have g2 : p2 20 ≤ p2 174 := p2_le (by decide)
      have g3 : p2 20 = 1048576 := by decide +kernel
      have g4 := Rat.mul_le_mul_of_nonneg_left g2 (Rat.le_of_lt (p2_pos (-1074)))
      have g5 := eta_half
      rw [g3] at g4
      clear rp rz sp sz q1 q2 sp2
      grind
    have hpx : val x / 2 ≤ val p + val x := by clear rz rp sz; grind
    have sp3 := (rp (val x) (by grind) (by grind)).2
    rw [hu] at sp3
    have hpx2 : val p + val x ≤ 2 * val x := by clear rz rp sz; grind
    have sz2 := (rz (2 * val x) (by grind) hpx2).1
    rw [hu] at sz2
    clear rz rp
    grind
end FL
