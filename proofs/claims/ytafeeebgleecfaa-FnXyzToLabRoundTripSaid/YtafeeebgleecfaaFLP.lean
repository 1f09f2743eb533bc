/-
  Plain facts on IEEE double words, continued: one channel of hsl_to_rgb, from its hue, light and saturation; and what rgb_to_hsl makes of light and saturation.
-/
import Derived.Test.YtafeeebgleecfaaFLO
namespace FL
open Ieee
set_option linter.unusedVariables false
theorem least3 (a b c : Rat) : ∃ y, (y = a ∨ y = b ∨ y = c) ∧ y ≤ a ∧ y ≤ b ∧ y ≤ c := by
  rcases (by grind : a ≤ b ∨ b ≤ a) with h1 | h1
  · rcases (by grind : a ≤ c ∨ c ≤ a) with h2 | h2
    · exact ⟨a, .inl rfl, Rat.le_refl, h1, h2⟩
    · exact ⟨c, .inr (.inr rfl), h2, by grind, Rat.le_refl⟩
  · rcases (by grind : b ≤ c ∨ c ≤ b) with h2 | h2
    · exact ⟨b, .inr (.inl rfl), h1, Rat.le_refl, h2⟩
    · exact ⟨c, .inr (.inr rfl), by grind, h2, Rat.le_refl⟩
/-- the trapezium by the words that are reckoned -/
theorem shape16 (k : Nat) (fk : Finite k) (x T : Rat) (j : Int) (hT : Trap x T) (k1 : 0 ≤ val k) (k2 : val k ≤ 12 + 1 / 1000000000000) (h1 : x - 12 * (j : Rat) - 1 / 4000000000 ≤ val k) (h2 : val k ≤ x - 12 * (j : Rat) + 1 / 4000000000) :
    ∃ x1 x2 mn3 t, double.sub k 4613937818241073152 = some x1 ∧ double.add (FL.flip k) 4621256167635550208 = some x2 ∧ minW (minW x1 x2) 4607182418800017408 = mn3 ∧ maxW 13830554455654793216 mn3 = t ∧ Finite t ∧ T - 4 / 10000000000 ≤ val t ∧ val t ≤ T + 4 / 10000000000 := by
  obtain ⟨b22, b23⟩ := big1022
  have hu : u = 1 / 9007199254740992 := rfl
  obtain ⟨f3, v3⟩ := c3
  obtain ⟨f9, v9⟩ := c9
  obtain ⟨f1, v1⟩ := cOne
  obtain ⟨fm, vm⟩ := cm1
  obtain ⟨x1, e1, g1, r1⟩ := sub_ok k 4613937818241073152 fk f3 (by rw [v3]; grind) (by rw [v3]; grind)
  rw [v3] at r1
  have s1 := r1 13 (by grind) (by grind)
  rw [hu] at s1
  obtain ⟨x2, e2, g2, r2⟩ := add_ok (FL.flip k) 4621256167635550208 (flip_fin k fk) f9 (by rw [flip_val k fk.1, v9]; grind) (by rw [flip_val k fk.1, v9]; grind)
  rw [flip_val k fk.1, v9] at r2
  have s2 := r2 13 (by grind) (by grind)
  rw [hu] at s2
  have m1 := min_ok g1 g2
  have m2 := min_ok m1.1 f1
  have m3 := max_ok fm m2.1
  obtain ⟨y, y1, y2, y3, y4⟩ := least3 (val k - 3) (9 - val k) 1
  obtain ⟨n1, n2⟩ := trap_near x T (val k) j hT k1 k2 h1 h2 y y1 y2 y3 y4
  have c1 : y - 1 / 100000000000000 ≤ val (minW (minW x1 x2) 4607182418800017408) ∧ val (minW (minW x1 x2) 4607182418800017408) ≤ y + 1 / 100000000000000 := by
    obtain ⟨-, a1, a2, a3⟩ := m1
    obtain ⟨-, a4, a5, a6⟩ := m2
    rw [v1] at a5
    constructor
    · rcases a6 with e | e
      · rw [e]
        rcases a3 with e' | e' <;> rw [e'] <;> grind
      · rw [e, v1]; grind
    · rcases y1 with e | e | e <;> rw [e] <;> grind
  refine ⟨x1, x2, _, _, e1, e2, rfl, rfl, m3.1, ?_, ?_⟩
  · obtain ⟨-, a1, a2, a3⟩ := m3
    rw [vm] at a1
    rcases (by grind : -1 ≤ y ∨ y ≤ -1) with h | h
    · have := n1 h; grind
    · have := n2 h; grind
  · obtain ⟨-, a1, a2, a3⟩ := m3
    rcases (by grind : -1 ≤ y ∨ y ≤ -1) with h | h
    · have := n1 h
      rcases a3 with e | e <;> rw [e]
      · rw [vm]; grind
      · grind
    · have := n2 h
      rcases a3 with e | e <;> rw [e]
      · rw [vm]; grind
      · grind
/-- one channel -/
theorem chan16 (hue li sa n mi : Nat) (nv x T L A : Rat) (j0 : Int) (fh : Finite hue) (fl : Finite li) (fs : Finite sa) (fn : Finite n) (vn : val n = nv) (nv1 : 0 ≤ nv) (nv2 : nv ≤ 8) (hh1 : -1 ≤ val hue) (hh2 : val hue ≤ 361)
    (hx1 : x + 12 * (j0 : Rat) - 2 / 10000000000 ≤ val hue / 30 + nv) (hx2 : val hue / 30 + nv ≤ x + 12 * (j0 : Rat) + 2 / 10000000000) (hT : Trap x T) (l1 : L - 1 / 1000000000000 ≤ val li) (l2 : val li ≤ L + 1 / 1000000000000) (L1 : 0 ≤ L) (L2 : L ≤ 1)
    (fmi : Finite mi) (A1 : 0 ≤ A) (A2 : A ≤ 1 / 2) (hA1 : A - 1 / 100000000000 ≤ val mi * val sa) (hA2 : val mi * val sa ≤ A + 1 / 100000000000) :
    ∃ k0 k1 k2 fk k3 k a x1 x2 mn3 t y z, double.div hue 4629137466983448576 = some k0 ∧ double.add k0 n = some k1 ∧ double.div k1 4622945017495814144 = some k2 ∧ (Finite k2 ∧ floorW k2 = fk) ∧ double.sub k2 fk = some k3 ∧ double.mul k3 4622945017495814144 = some k ∧ double.mul mi sa = some a ∧ double.sub k 4613937818241073152 = some x1 ∧ double.add (FL.flip k) 4621256167635550208 = some x2 ∧ minW (minW x1 x2) 4607182418800017408 = mn3 ∧ maxW 13830554455654793216 mn3 = t ∧ double.mul t a = some y ∧ double.sub li y = some z ∧
      Finite z ∧ L - T * A - 9 / 10000000000 ≤ val z ∧ val z ≤ L - T * A + 9 / 10000000000 := by
  obtain ⟨b22, b23⟩ := big1022
  have hu : u = 1 / 9007199254740992 := rfl
  have he := eta_tiny
  have he0 := eta_pos
  obtain ⟨fc, vc⟩ := c30
  obtain ⟨k0, e0, f0, r0⟩ := div_ok hue 4629137466983448576 fh fc (by rw [vc]; decide +kernel) (val hue / 30) (by rw [vc]; grind) (by grind) (by grind)
  have s0 := r0 13 (by grind) (by grind)
  rw [hu] at s0
  obtain ⟨k1, e1, f1, r1⟩ := add_ok k0 n f0 fn (by rw [vn]; grind) (by rw [vn]; grind)
  rw [vn] at r1
  have s1 := r1 30 (by grind) (by grind)
  rw [hu] at s1
  obtain ⟨k2, fk, k3, k, e2, e3, e4, e5, f5, p1, p2, j, p3, p4⟩ := mod12 k1 f1 (by grind) (by grind)
  have ej : ((j - j0 : Int) : Rat) = (j : Rat) - (j0 : Rat) := Rat.intCast_sub _ _
  obtain ⟨x1, x2, mn3, t, e6, e7, e8, e9, f9, t1, t2⟩ := shape16 k f5 x T (j - j0) hT p1 p2 (by rw [ej]; grind) (by rw [ej]; grind)
  obtain ⟨T1, T2⟩ := trap_le hT
  obtain ⟨a, e10, f10, r10⟩ := mul_ok mi sa fmi fs (by grind) (by grind)
  have s10 := r10 1 (by grind) (by grind)
  rw [hu] at s10
  have hp := prod_near (T := val t) (T0 := T) (a := val a) (A := A) (e := 4 / 10000000000) t1 t2 (by grind) (by grind) T1 T2 (by grind) (by grind) (by grind)
  have hTA := prod_near (T := T) (T0 := T) (a := A) (A := 0) (e := 1) (by grind) (by grind) (by grind) (by grind) T1 T2 (by grind) (by grind) (by grind)
  obtain ⟨y, e11, f11, r11⟩ := mul_ok t a f9 f10 (by grind) (by grind)
  have s11 := r11 3 (by grind) (by grind)
  rw [hu] at s11
  obtain ⟨z, e12, f12, r12⟩ := sub_ok li y fl f11 (by grind) (by grind)
  have s12 := r12 6 (by grind) (by grind)
  rw [hu] at s12
  exact ⟨k0, k1, k2, fk, k3, k, a, x1, x2, mn3, t, y, z, e0, e1, e2, e3, e4, e5, e10, e6, e7, e8, e9, e11, e12, f12, by grind, by grind⟩
end FL
