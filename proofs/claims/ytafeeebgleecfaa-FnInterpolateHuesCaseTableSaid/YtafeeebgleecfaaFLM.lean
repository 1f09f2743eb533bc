/-
  Plain facts on IEEE double words, continued: the distance of two hues round the circle; what the law on hues asks of its numbers.
-/
import Derived.Test.YtafeeebgleecfaaFLL
namespace FL
open Ieee Go
set_option linter.unusedVariables false
/-- the distance round the circle of two hues that differ by whole turns: what is reckoned after the floor 'F' -/
theorem circ49 (x y : Nat) (k : Int) (fx : Finite x) (fy : Finite y) (x1 : -1 ≤ val x) (x2 : val x ≤ 1000) (y1 : -1000000 ≤ val y) (y2 : val y ≤ 1000000) (k1 : -1 / 10000000 ≤ val x - val y - 360 * (k : Rat)) (k2 : val x - val y - 360 * (k : Rat) ≤ 1 / 10000000) :
    ∃ dd dq, double.sub x y = some dd ∧ double.div dd 4645040803167600640 = some dq ∧ Finite dq ∧ -100000 ≤ val dq ∧ val dq ≤ 100000 ∧ ∀ F (kf : Int), Finite F → val F = kf → (kf : Rat) ≤ val dq → val dq < (kf : Rat) + 1 →
      ∃ G mm nn, double.mul 4645040803167600640 F = some G ∧ double.sub dd G = some mm ∧ double.sub 4645040803167600640 mm = some nn ∧ ((ltB nn mm = true ∧ Finite nn ∧ val nn ≤ 1 / 2000000) ∨ (ltB nn mm = false ∧ Finite mm ∧ val mm ≤ 1 / 2000000)) := by
  obtain ⟨b22, b23⟩ := big1022
  have hu : u = 1 / 9007199254740992 := rfl
  have he := eta_tiny
  have he0 := eta_pos
  obtain ⟨fc, vc⟩ := c360
  obtain ⟨dd, e1, f1, r1⟩ := sub_ok x y fx fy (by grind) (by grind)
  have c1 := r1 1001000 (by grind) (by grind)
  rw [hu] at c1
  obtain ⟨dq, e2, f2, r2⟩ := div_ok dd 4645040803167600640 f1 fc (by rw [vc]; decide +kernel) (val dd / 360) (by rw [vc]; grind) (by grind) (by grind)
  have c2 := r2 3000 (by grind) (by grind)
  rw [hu] at c2
  refine ⟨dd, dq, e1, e2, f2, by grind, by grind, fun F kf fF vF g1 g2 => ?_⟩
  have z1 : (kf : Rat) < (k : Rat) + 1 := by grind
  have z2 : (k : Rat) - 2 < (kf : Rat) := by grind
  have z3 : (kf : Rat) < 4000 := by grind
  have z4 : (-4000 : Rat) < (kf : Rat) := by grind
  have i1 : kf < k + 1 := by
    have : (kf : Rat) < ((k + 1 : Int) : Rat) := by rw [Rat.intCast_add]; exact z1
    exact Rat.intCast_lt_intCast.1 this
  have i2 : k - 2 < kf := by
    have : ((k - 2 : Int) : Rat) < (kf : Rat) := by rw [Rat.intCast_sub]; exact z2
    exact Rat.intCast_lt_intCast.1 this
  have i3 : kf < 4000 := by
    have : (kf : Rat) < ((4000 : Int) : Rat) := by rw [show ((4000 : Int) : Rat) = 4000 by decide +kernel]; exact z3
    exact Rat.intCast_lt_intCast.1 this
  have i4 : -4000 < kf := by
    have : ((-4000 : Int) : Rat) < (kf : Rat) := by rw [show ((-4000 : Int) : Rat) = -4000 by decide +kernel]; exact z4
    exact Rat.intCast_lt_intCast.1 this
  have eG : val 4645040803167600640 * val F = ((360 * kf : Int) : Rat) := by rw [vc, vF, Rat.intCast_mul]; rfl
  obtain ⟨G, e3, f3, v3⟩ := mul_exact fc fF (by rw [eG]; exact exact_int _ (by omega))
  rw [eG, Rat.intCast_mul, show ((360 : Int) : Rat) = 360 by decide +kernel] at v3
  obtain ⟨mm, e4, f4, r4⟩ := sub_ok dd G f1 f3 (by rw [v3]; grind) (by rw [v3]; grind)
  rw [v3] at r4
  have c4 := r4 1000 (by grind) (by grind)
  rw [hu] at c4
  obtain ⟨nn, e5, f5, r5⟩ := sub_ok 4645040803167600640 mm fc f4 (by rw [vc]; grind) (by rw [vc]; grind)
  rw [vc] at r5
  have c5 := r5 2000 (by grind) (by grind)
  rw [hu] at c5
  refine ⟨G, mm, nn, e3, e4, e5, ?_⟩
  rw [ltB_ok f5 f4]
  rcases (by omega : kf = k ∨ kf = k - 1) with rfl | rfl
  · right
    exact ⟨decide_eq_false (by grind), f4, by grind⟩
  · left
    have e6 : ((k - 1 : Int) : Rat) = (k : Rat) - 1 := by rw [Rat.intCast_sub]; rfl
    rw [e6] at *
    exact ⟨decide_eq_true (by grind), f5, by grind⟩
theorem kEps : Finite 4517329193108106637 ∧ 9 / 10000000 ≤ val 4517329193108106637 ∧ val 4517329193108106637 ≤ 11 / 10000000 := by refine ⟨?_, ?_, ?_⟩ <;> decide +kernel
theorem kMEps : Finite 13740701229962882445 ∧ -11 / 10000000 ≤ val 13740701229962882445 ∧ val 13740701229962882445 ≤ -9 / 10000000 := by refine ⟨?_, ?_, ?_⟩ <;> decide +kernel
theorem k720 : Finite 4649544402803767229 ∧ 720 + 9 / 10000000 ≤ val 4649544402803767229 := by refine ⟨?_, ?_⟩ <;> decide +kernel
theorem k360e : Finite 4645040803185192826 ∧ 360 + 9 / 10000000 ≤ val 4645040803185192826 := by refine ⟨?_, ?_⟩ <;> decide +kernel
theorem k180p : Finite 4640537203575414516 ∧ 180 + 9 / 10000000 ≤ val 4640537203575414516 := by refine ⟨?_, ?_⟩ <;> decide +kernel
theorem k180m : Finite 4640537203505045772 ∧ val 4640537203505045772 ≤ 180 - 9 / 10000000 := by refine ⟨?_, ?_⟩ <;> decide +kernel
theorem kM360 : Finite 13868412840039968634 ∧ val 13868412840039968634 ≤ -360 - 9 / 10000000 := by refine ⟨?_, ?_⟩ <;> decide +kernel
/-- the ends A and B as the method fixes them (exact rationals, slack 1e-9) -/
def Ends (m : Int) (A B : Rat) : Prop :=
  0 ≤ A ∧ 0 ≤ B ∧ A ≤ 2 + 1 / 1000000000 ∧ B ≤ 2 + 1 / 1000000000 ∧ (m ≤ 3 → A ≤ 1 + 1 / 1000000000 ∨ B ≤ 1 + 1 / 1000000000) ∧
  (m = 0 → -(1 / 2) - 1 / 1000000000 ≤ B - A ∧ B - A ≤ 1 / 2 + 1 / 1000000000) ∧
  (m = 1 → (1 / 2 - 1 / 1000000000 ≤ B - A ∧ B - A ≤ 1 + 1 / 1000000000) ∨ (-1 - 1 / 1000000000 ≤ B - A ∧ B - A ≤ -(1 / 2) + 1 / 1000000000)) ∧
  (m = 2 → -(1 / 1000000000) ≤ B - A ∧ B - A ≤ 1 + 1 / 1000000000) ∧
  (m = 3 → -1 - 1 / 1000000000 ≤ B - A ∧ B - A ≤ 1 / 1000000000) ∧
  (4 ≤ m → A ≤ 1 + 1 / 1000000000 ∧ B ≤ 1 + 1 / 1000000000)
/-- the last tests of the law -/
theorem tests49 (m : Int) (A B T : Rat) (z0 z1 zt t : Nat) (hE : Ends m A B) (f0 : Finite z0) (f1 : Finite z1) (ft : Finite zt) (ftt : Finite t) (vt : val t = T) (t1 : 0 ≤ T) (t2 : T ≤ 1)
    (a1 : 360 * A - 1 / 1000000000 ≤ val z0) (a2 : val z0 ≤ 360 * A + 1 / 1000000000) (b1 : 360 * B - 1 / 1000000000 ≤ val z1) (b2 : val z1 ≤ 360 * B + 1 / 1000000000) (c1 : 360 * (A + (B - A) * T) - 1 / 1000000000 ≤ val zt) (c2 : val zt ≤ 360 * (A + (B - A) * T) + 1 / 1000000000) :
    ∃ d s2 s3 s4, double.sub z1 z0 = some d ∧ double.mul d t = some s2 ∧ double.add z0 s2 = some s3 ∧ double.sub zt s3 = some s4 ∧ gtB (absW s4) 4517329193108106637 = false ∧ ltB z0 13740701229962882445 = false ∧ ltB z1 13740701229962882445 = false ∧ gtB z0 4649544402803767229 = false ∧ gtB z1 4649544402803767229 = false ∧
      (m ≤ 3 → gtB z0 4645040803185192826 = false ∨ (gtB z0 4645040803185192826 = true ∧ gtB z1 4645040803185192826 = false)) ∧
      (m = 0 → leB (absW d) 4640537203575414516 = true) ∧ (m = 1 → geB (absW d) 4640537203505045772 = true ∧ leB (absW d) 4645040803185192826 = true) ∧ (m = 2 → geB d 13740701229962882445 = true ∧ leB d 4645040803185192826 = true) ∧ (m = 3 → leB d 4517329193108106637 = true ∧ geB d 13868412840039968634 = true) ∧ (4 ≤ m → leB z0 4645040803185192826 = true ∧ leB z1 4645040803185192826 = true) := by
  obtain ⟨b22, b23⟩ := big1022
  have hu : u = 1 / 9007199254740992 := rfl
  have he := eta_tiny
  have he0 := eta_pos
  obtain ⟨E1, E2, E3, E4, E5, E6, E7, E8, E9, E10⟩ := hE
  obtain ⟨d, e1, fd, r1⟩ := sub_ok z1 z0 f1 f0 (by grind) (by grind)
  have g1 := r1 1000 (by grind) (by grind)
  rw [hu] at g1
  have s1 := scale (x := B - A) (t := T) (M := 3) (by grind) (by grind) t1 t2
  have s2 := scale (x := val d - 360 * (B - A)) (t := T) (M := 1 / 100000000) (by grind) (by grind) t1 t2
  have ep : val d * val t = 360 * ((B - A) * T) + (val d - 360 * (B - A)) * T := by rw [vt]; grind
  obtain ⟨q, e2, f2, r2⟩ := mul_ok d t fd ftt (by grind) (by grind)
  have g2 := r2 2000 (by grind) (by grind)
  rw [hu] at g2
  obtain ⟨s, e3, f3, r3⟩ := add_ok z0 q f0 f2 (by grind) (by grind)
  have g3 := r3 4000 (by grind) (by grind)
  rw [hu] at g3
  obtain ⟨v, e4, f4, r4⟩ := sub_ok zt s ft f3 (by grind) (by grind)
  have g4 := r4 8000 (by grind) (by grind)
  rw [hu] at g4
  obtain ⟨fa, w1, w2, w3, w4⟩ := absW_ok f4
  obtain ⟨fb, x1, x2, x3, x4⟩ := absW_ok fd
  obtain ⟨q1, q2, q3⟩ := kEps
  obtain ⟨q4, q5, q6⟩ := kMEps
  obtain ⟨q7, q8⟩ := k720
  obtain ⟨q9, q10⟩ := k360e
  obtain ⟨q11, q12⟩ := k180p
  obtain ⟨q13, q14⟩ := k180m
  obtain ⟨q15, q16⟩ := kM360
  refine ⟨d, q, s, v, e1, e2, e3, e4, ?_, ?_, ?_, ?_, ?_, ?_, ?_, ?_, ?_, ?_, ?_⟩
  · rw [gtB_ok fa q1]; exact decide_eq_false (by rcases w4 with e | e <;> rw [e] <;> grind)
  · rw [ltB_ok f0 q4]; exact decide_eq_false (by grind)
  · rw [ltB_ok f1 q4]; exact decide_eq_false (by grind)
  · rw [gtB_ok f0 q7]; exact decide_eq_false (by grind)
  · rw [gtB_ok f1 q7]; exact decide_eq_false (by grind)
  · intro hm
    rw [gtB_ok f0 q9, gtB_ok f1 q9]
    by_cases hg : val 4645040803185192826 < val z0
    · right
      exact ⟨decide_eq_true hg, decide_eq_false (by rcases E5 hm with e | e <;> grind)⟩
    · exact .inl (decide_eq_false hg)
  · intro hm
    obtain ⟨y1, y2⟩ := E6 hm
    rw [leB_ok fb q11]; exact decide_eq_true (by rcases x4 with e | e <;> rw [e] <;> grind)
  · intro hm
    rw [geB_ok fb q13, leB_ok fb q9]
    rcases E7 hm with ⟨y1, y2⟩ | ⟨y1, y2⟩
    · exact ⟨decide_eq_true (by grind), decide_eq_true (by rcases x4 with e | e <;> rw [e] <;> grind)⟩
    · exact ⟨decide_eq_true (by grind), decide_eq_true (by rcases x4 with e | e <;> rw [e] <;> grind)⟩
  · intro hm
    obtain ⟨y1, y2⟩ := E8 hm
    rw [geB_ok fd q4, leB_ok fd q9]; exact ⟨decide_eq_true (by grind), decide_eq_true (by grind)⟩
  · intro hm
    obtain ⟨y1, y2⟩ := E9 hm
    rw [leB_ok fd q1, geB_ok fd q15]; exact ⟨decide_eq_true (by grind), decide_eq_true (by grind)⟩
  · intro hm
    obtain ⟨y1, y2⟩ := E10 hm
    rw [leB_ok f0 q9, leB_ok f1 q9]; exact ⟨decide_eq_true (by grind), decide_eq_true (by grind)⟩
end FL
