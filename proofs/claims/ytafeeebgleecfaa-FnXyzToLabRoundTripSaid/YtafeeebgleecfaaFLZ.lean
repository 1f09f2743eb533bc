/-
  Plain facts on IEEE double words, continued: the two functions of CIE Lab and their inverses, rounded.
-/
import Derived.Test.YtafeeebgleecfaaFLY
namespace FL
open Ieee
set_option linter.unusedVariables false
theorem kKap : Finite 4651156694067819558 ∧ -(1 / 10000000000000) ≤ val 4651156694067819558 - 24389 / 27 ∧ val 4651156694067819558 - 24389 / 27 ≤ 1 / 10000000000000 := by refine ⟨?_, ?_, ?_⟩ <;> decide +kernel
theorem kEpl : Finite 4576259018578689238 ∧ -(1 / 100000000000000000) ≤ val 4576259018578689238 - 216 / 24389 ∧ val 4576259018578689238 - 216 / 24389 ≤ 1 / 100000000000000000 := by refine ⟨?_, ?_, ?_⟩ <;> decide +kernel
theorem k16 : Finite 4625196817309499392 ∧ val 4625196817309499392 = 16 := by constructor <;> decide +kernel
theorem k116 : Finite 4637863191261478912 ∧ val 4637863191261478912 = 116 := by constructor <;> decide +kernel
theorem k500 : Finite 4647503709213818880 ∧ val 4647503709213818880 = 500 := by constructor <;> decide +kernel
theorem k200 : Finite 4641240890982006784 ∧ val 4641240890982006784 = 200 := by constructor <;> decide +kernel
theorem k8 : Finite 4620693217682128896 ∧ val 4620693217682128896 = 8 := by constructor <;> decide +kernel
theorem kDx : Finite 4606860822843362778 ∧ 964 / 1000 ≤ val 4606860822843362778 ∧ val 4606860822843362778 ≤ 965 / 1000 := by refine ⟨?_, ?_, ?_⟩ <;> decide +kernel
theorem kDz : Finite 4605607101106091996 ∧ 825 / 1000 ≤ val 4605607101106091996 ∧ val 4605607101106091996 ≤ 826 / 1000 := by refine ⟨?_, ?_, ?_⟩ <;> decide +kernel
theorem abs_mul {a b A B : Rat} (ha1 : -A ≤ a) (ha2 : a ≤ A) (hb1 : -B ≤ b) (hb2 : b ≤ B) : -(A * B) ≤ a * b ∧ a * b ≤ A * B := by
  have hA : 0 ≤ A := by grind
  rcases (by grind : 0 ≤ b ∨ b ≤ 0) with h | h
  · have q1 := Rat.mul_le_mul_of_nonneg_right ha2 h
    have q2 := Rat.mul_le_mul_of_nonneg_right ha1 h
    have q3 := Rat.mul_le_mul_of_nonneg_left hb2 hA
    exact ⟨by grind, by grind⟩
  · have q1 := Rat.mul_le_mul_of_nonneg_right ha2 (show 0 ≤ -b by grind)
    have q2 := Rat.mul_le_mul_of_nonneg_right ha1 (show 0 ≤ -b by grind)
    have q3 := Rat.mul_le_mul_of_nonneg_left hb1 hA
    exact ⟨by grind, by grind⟩
theorem huge : (1000000000000000000000000000000 : Rat) < p2 1022 ∧ (1000000000000000000000000000000 : Rat) < p2 1023 := by
  have h1 : p2 100 = 1267650600228229401496703205376 := by decide +kernel
  have h2 := p100b
  exact ⟨by grind, by grind⟩
/-- the straight piece of XYZ to Lab -/
theorem lin_f (v : Nat) (fv : Finite v) (V : Rat) (hV : V ≤ 10000000000) (h1 : -V ≤ val v) (h2 : val v ≤ V) :
    ∃ m a f, double.mul v 4651156694067819558 = some m ∧ double.add m 4625196817309499392 = some a ∧ double.div a 4637863191261478912 = some f ∧ Finite f ∧ -(5 / 1000000000000000 * (V + 1)) ≤ val f - (24389 / 27 * val v + 16) / 116 ∧ val f - (24389 / 27 * val v + 16) / 116 ≤ 5 / 1000000000000000 * (V + 1) := by
  obtain ⟨b22, b23⟩ := huge
  have hu : u = 1 / 9007199254740992 := rfl
  have he := eta_nano
  have he0 := eta_pos
  obtain ⟨fk, k1, k2⟩ := kKap
  obtain ⟨f6, v6⟩ := k16
  obtain ⟨f1, v1⟩ := k116
  have hd := abs_mul h1 h2 k1 k2
  obtain ⟨P, hP⟩ : ∃ P, P = val v * val 4651156694067819558 := ⟨_, rfl⟩
  have eP : val v * (val 4651156694067819558 - 24389 / 27) = P - 24389 / 27 * val v := by rw [hP]; grind
  rw [eP] at hd
  obtain ⟨m, e1, fm, rm⟩ := mul_ok v 4651156694067819558 fv fk (by rw [← hP]; grind) (by rw [← hP]; grind)
  rw [← hP] at rm
  have s1 := rm (904 * V) (by grind) (by grind)
  clear rm
  rw [hu] at s1
  obtain ⟨a, e2, fa, ra⟩ := add_ok m 4625196817309499392 fm f6 (by rw [v6]; grind) (by rw [v6]; grind)
  rw [v6] at ra
  have s2 := ra (905 * V + 17) (by grind) (by grind)
  clear ra
  rw [hu] at s2
  obtain ⟨f, e3, ff, rf⟩ := div_ok a 4637863191261478912 fa f1 (by rw [v1]; grind) (val a / 116) (by rw [v1]; grind) (by grind) (by grind)
  have s3 := rf (8 * V + 1) (by grind) (by grind)
  clear rf
  rw [hu] at s3
  exact ⟨m, a, f, e1, e2, e3, ff, by grind, by grind⟩
/-- the straight piece of Lab to XYZ -/
theorem lin_x (F : Nat) (fF : Finite F) (S : Rat) (hS : S ≤ 1000000000000) (hS0 : 1 ≤ S) (h1 : -S ≤ val F) (h2 : val F ≤ S) :
    ∃ p v x, double.mul F 4637863191261478912 = some p ∧ double.sub p 4625196817309499392 = some v ∧ double.div v 4651156694067819558 = some x ∧ Finite x ∧ -(1 / 1000000000000000 * S) ≤ val x - (116 * val F - 16) * (27 / 24389) ∧ val x - (116 * val F - 16) * (27 / 24389) ≤ 1 / 1000000000000000 * S := by
  obtain ⟨b22, b23⟩ := huge
  have hu : u = 1 / 9007199254740992 := rfl
  have he := eta_nano
  have he0 := eta_pos
  obtain ⟨fk, k1, k2⟩ := kKap
  obtain ⟨f6, v6⟩ := k16
  obtain ⟨f1, v1⟩ := k116
  obtain ⟨p, e1, fp, rp⟩ := mul_ok F 4637863191261478912 fF f1 (by rw [v1]; grind) (by rw [v1]; grind)
  rw [v1] at rp
  have s1 := rp (116 * S) (by grind) (by grind)
  clear rp
  rw [hu] at s1
  obtain ⟨v, e2, fv, rv⟩ := sub_ok p 4625196817309499392 fp f6 (by rw [v6]; grind) (by rw [v6]; grind)
  rw [v6] at rv
  have s2 := rv (134 * S) (by grind) (by grind)
  clear rv
  rw [hu] at s2
  obtain ⟨K, hK⟩ : ∃ K, K = val 4651156694067819558 := ⟨_, rfl⟩
  rw [← hK] at k1 k2
  obtain ⟨w, hw⟩ : ∃ w, w * K = val v := ⟨val v / K, Rat.div_mul_cancel (by grind)⟩
  have w1 : w ≤ 1 / 6 * S := mul_le_cancel (show 0 < K by grind) (by rw [hw]; have := Rat.mul_le_mul_of_nonneg_left (show 900 ≤ K by grind) (show 0 ≤ 1 / 6 * S by grind); grind)
  have w2 : -(1 / 6 * S) ≤ w := mul_le_cancel (show 0 < K by grind) (by rw [hw]; have := Rat.mul_le_mul_of_nonneg_left (show 900 ≤ K by grind) (show 0 ≤ 1 / 6 * S by grind); grind)
  have hd := abs_mul w2 w1 k1 k2
  have ew : w * (K - 24389 / 27) = val v - w * (24389 / 27) := by rw [← hw]; grind
  rw [ew] at hd
  obtain ⟨x, e3, fx, rx⟩ := div_ok v 4651156694067819558 fv fk (by rw [← hK]; grind) w (by rw [← hK]; exact hw) (by grind) (by grind)
  have s3 := rx (1 / 6 * S) (by grind) (by grind)
  clear rx
  rw [hu] at s3
  exact ⟨p, v, x, e1, e2, e3, fx, by grind, by grind⟩
theorem eta_tiny40 : eta ≤ 1 / 10000000000000000000000000000000000000000 := by
  obtain ⟨-, h⟩ := p100
  have h2 : p2 (-100) = 1 / 1267650600228229401496703205376 := by decide +kernel
  rw [h2] at h
  grind
/-- a rounded cube -/
theorem cube_ok (F : Nat) (fF : Finite F) (h1 : -100000000000 ≤ val F) (h2 : val F ≤ 100000000000) :
    ∃ p c, double.mul F F = some p ∧ double.mul p F = some c ∧ Finite c ∧ (0 ≤ val F → val F * val F * val F * (1 - 1 / 1000000000000000) - 1 / 1000000000000000000 ≤ val c ∧ val c ≤ val F * val F * val F * (1 + 1 / 1000000000000000) + 1 / 1000000000000000000) ∧ (val F ≤ 0 → val c ≤ 0) := by
  have h100 : p2 120 = 1329227995784915872903807060280344576 := by decide +kernel
  have b23 : p2 120 < p2 1023 := by
    have g2 : p2 121 ≤ p2 1023 := p2_le (by decide)
    have g3 : p2 121 = 2 * p2 120 := half_p2 121
    have g4 := p2_pos 120
    grind
  have hu : u = 1 / 9007199254740992 := rfl
  have he := eta_tiny40
  have he0 := eta_pos
  have q := abs_mul h1 h2 h1 h2
  have q0 : 0 ≤ val F * val F := by
    rcases (by grind : 0 ≤ val F ∨ val F ≤ 0) with h | h
    · exact Rat.mul_nonneg h h
    · have := Rat.mul_nonneg (show 0 ≤ -val F by grind) (show 0 ≤ -val F by grind); grind
  obtain ⟨Q, hQ⟩ : ∃ Q, Q = val F * val F := ⟨_, rfl⟩
  rw [← hQ] at q q0
  obtain ⟨p, e1, fp, rp⟩ := mul_ok F F fF fF (by rw [← hQ]; grind) (by rw [← hQ]; grind)
  rw [← hQ] at rp
  have s1 := rp Q (by grind) (by grind)
  clear rp
  rw [hu] at s1
  have p0 : 0 ≤ val p := by
    obtain ⟨b, kk, i, e, v⟩ := mul_form fF fF
    rw [← hQ] at v
    replace e := Option.some.inj (e1.symm.trans e)
    have h0 := (form_bound (c := 0) (j := 0) v (by grind) (by grind) (by decide) (by decide)).2.2.2
    have z : ((0 : Nat) : Rat) * p2 0 = 0 := Rat.zero_mul _
    rw [z, ← e] at h0
    exact h0 q0
  have q2 := abs_mul (a := val p) (A := 10100000000000000000000) (by grind) (by grind) h1 h2
  obtain ⟨c, e2, fc, rc⟩ := mul_ok p F fp fF (by grind) (by grind)
  refine ⟨p, c, e1, e2, fc, fun h => ?_, fun h => ?_⟩
  · have hp := Rat.mul_nonneg p0 h
    have s2 := rc (val p * val F) (by grind) (by grind)
    clear rc
    rw [hu] at s2
    have t1 := Rat.mul_le_mul_of_nonneg_right (show Q * (1 - 1 / 9007199254740992) - eta ≤ val p by grind) h
    have t2 := Rat.mul_le_mul_of_nonneg_right (show val p ≤ Q * (1 + 1 / 9007199254740992) + eta by grind) h
    have t3 := Rat.mul_le_mul_of_nonneg_left h2 (Rat.le_of_lt he0)
    have hQF := Rat.mul_nonneg q0 h
    rw [← hQ]
    have k1 : (Q * (1 - 1 / 9007199254740992) - eta) * val F = Q * val F * (1 - 1 / 9007199254740992) - eta * val F := by grind
    have k2 : (Q * (1 + 1 / 9007199254740992) + eta) * val F = Q * val F * (1 + 1 / 9007199254740992) + eta * val F := by grind
    rw [k1] at t1
    rw [k2] at t2
    clear q q2 b23 h100 k1 k2 hQ s1
    generalize Q * val F = C at *
    generalize val p * val F = D at *
    generalize eta * val F = E at *
    exact ⟨by grind, by grind⟩
  · obtain ⟨b, kk, i, e, v⟩ := mul_form fp fF
    replace e := Option.some.inj (e2.symm.trans e)
    have hn : val p * val F ≤ 0 := by
      have := Rat.mul_nonneg p0 (show 0 ≤ -val F by grind); grind
    have h0 := (form_bound (c := 0) (j := 0) v (by grind) (by grind) (by decide) (by decide)).1
    have z : ((0 : Nat) : Rat) * p2 0 = 0 := Rat.zero_mul _
    rw [z, ← e] at h0
    exact h0 hn
theorem cube_near {a c D B : Rat} (a1 : -B ≤ a) (a2 : a ≤ B) (c1 : -B ≤ c) (c2 : c ≤ B) (d1 : -D ≤ a - c) (d2 : a - c ≤ D) : -(3 * (D * (B * B))) ≤ a * a * a - c * c * c ∧ a * a * a - c * c * c ≤ 3 * (D * (B * B)) := by
  have q1 := abs_mul a1 a2 a1 a2
  have q2 := abs_mul a1 a2 c1 c2
  have q3 := abs_mul c1 c2 c1 c2
  have e : a * a * a - c * c * c = (a - c) * (a * a + a * c + c * c) := by grind
  have r := abs_mul d1 d2 (b := a * a + a * c + c * c) (B := 3 * (B * B)) (by grind) (by grind)
  rw [e]
  have e2 : D * (3 * (B * B)) = 3 * (D * (B * B)) := by grind
  rw [e2] at r
  exact r
theorem cube_le_inv {a b : Rat} (hb : 0 ≤ b) (h : a * a * a ≤ b * b * b) : a ≤ b := by
  rcases (by grind : a ≤ b ∨ b < a) with h1 | h1
  · exact h1
  · exfalso
    have c1 := Rat.mul_lt_mul_of_pos_right h1 (show 0 < a by grind)
    have c2 := Rat.mul_le_mul_of_nonneg_left (Rat.le_of_lt h1) hb
    have c3 : b * b < a * a := by grind
    have c4 := Rat.mul_lt_mul_of_pos_right c3 (show 0 < a by grind)
    have c5 := Rat.mul_le_mul_of_nonneg_left (Rat.le_of_lt h1) (Rat.mul_nonneg hb hb)
    grind
end FL
