/-
  Plain facts on rational numbers: Lab and XYZ, there and back, by the two pieces of each function.
-/
import Derived.Test.YtafeeebgleecfaaFLZ
namespace FL
set_option linter.unusedVariables false
/-- a channel of XYZ by its Lab angle: the cube root, or the straight piece -/
def ToF (E v f B R : Rat) : Prop := (E < v ∧ 0 ≤ f ∧ f ≤ B ∧ v * (1 - 1 / 100000000000) ≤ f * f * f ∧ f * f * f ≤ v * (1 + 1 / 100000000000)) ∨ (v ≤ E ∧ -R ≤ f - (24389 / 27 * v + 16) / 116 ∧ f - (24389 / 27 * v + 16) / 116 ≤ R)
/-- and back: the cube, or the straight piece -/
def ToX (F x D R : Rat) : Prop := (6 / 29 - D ≤ F ∧ F * F * F * (1 - 1 / 1000000000000000) - 1 / 1000000000000000000 ≤ x ∧ x ≤ F * F * F * (1 + 1 / 1000000000000000) + 1 / 1000000000000000000) ∨ (F ≤ 6 / 29 + D ∧ -R ≤ x - (116 * F - 16) * (27 / 24389) ∧ x - (116 * F - 16) * (27 / 24389) ≤ R)
theorem num1 : (6 / 29 - 1 / 100000000000 : Rat) * (6 / 29 - 1 / 100000000000) * (6 / 29 - 1 / 100000000000) ≤ (216 / 24389 - 1 / 100000000000000000) * (1 - 1 / 100000000000) := by decide +kernel
theorem num2 : (6 / 29 : Rat) * (6 / 29) * (6 / 29) = 216 / 24389 := by decide +kernel
set_option maxHeartbeats 1000000 in
theorem back14 {E v f F x e M : Rat} (hM : 1 ≤ M) (hM2 : M ≤ 1000000001) (e0 : 0 ≤ e) (he : e ≤ 30 / 1000000000000000 * M) (hea : E < v → e ≤ 16 / 1000000000000000 * M) (E1 : -(1 / 100000000000000000) ≤ E - 216 / 24389) (E2 : E - 216 / 24389 ≤ 1 / 100000000000000000)
    (hf : ToF E v f 1070 (2 / 100000000000000 * M)) (hF1 : -e ≤ F - f) (hF2 : F - f ≤ e) (hvM : v ≤ 2 * M) (hx : ToX F x (1 / 1000000000000 * M) (1 / 10000000000000 * M)) :
    -(6 / 100000000 * M) ≤ x - v ∧ x - v ≤ 6 / 100000000 * M := by
  rcases hf with ⟨v1, f0, f1, c1, c2⟩ | ⟨v1, c1, c2⟩
  · have hea := hea v1
    rcases hx with ⟨g1, x1, x2⟩ | ⟨g1, x1, x2⟩
    · obtain ⟨k1, k2⟩ := cube_near (a := F) (c := f) (D := e) (B := 1071) (by grind) (by grind) (by grind) (by grind) hF1 hF2
      generalize F * F * F = FFF at *
      generalize f * f * f = fff at *
      exact ⟨by grind, by grind⟩
    · have hf2 : 6 / 29 - 1 / 100000000000 ≤ f := cube_le_inv f0 (by have := num1; grind)
      obtain ⟨k1, k2⟩ := cube_near (a := f) (c := 6 / 29) (D := 12 / 1000000000000 * M) (B := 22 / 100) (by grind) (by grind) (by grind) (by grind) (by grind) (by grind)
      rw [num2] at k1 k2
      generalize f * f * f = fff at *
      exact ⟨by grind, by grind⟩
  · clear hea
    rcases hx with ⟨g1, x1, x2⟩ | ⟨g1, x1, x2⟩
    · have hf2 : f ≤ 6 / 29 + 3 / 100000000000000 * M := by grind
      obtain ⟨k1, k2⟩ := cube_near (a := F) (c := 6 / 29) (D := 2 / 1000000000000 * M) (B := 21 / 100) (by grind) (by grind) (by grind) (by grind) (by grind) (by grind)
      rw [num2] at k1 k2
      generalize F * F * F = FFF at *
      exact ⟨by grind, by grind⟩
    · exact ⟨by grind, by grind⟩
theorem num3 : (1 + 12 / 1000000000000 : Rat) ≤ (1 + 4 / 1000000000000) * (1 + 4 / 1000000000000) * (1 + 4 / 1000000000000) ∧ (1 - 4 / 1000000000000 : Rat) * (1 - 4 / 1000000000000) * (1 - 4 / 1000000000000) ≤ 1 - 119 / 10000000000000 := by constructor <;> decide +kernel
theorem num4 : (216 / 24389 + 3 / 100000000000000 : Rat) ≤ (6 / 29 + 1 / 1000000000000) * (6 / 29 + 1 / 1000000000000) * (6 / 29 + 1 / 1000000000000) := by decide +kernel
theorem num5 : 216 / 24389 - 2 / 10000000000000 ≤ (6 / 29 - 1 / 1000000000000 : Rat) * (6 / 29 - 1 / 1000000000000) * (6 / 29 - 1 / 1000000000000) := by decide +kernel
theorem num6 : (216 / 24389 + 6 / 10000000000000 : Rat) * (1 + 1 / 100000000000) ≤ (6 / 29 + 1 / 100000000000) * (6 / 29 + 1 / 100000000000) * (6 / 29 + 1 / 100000000000) := by decide +kernel
set_option maxHeartbeats 1000000 in
theorem fwd7 {E F x v g : Rat} (E1 : -(1 / 100000000000000000) ≤ E - 216 / 24389) (E2 : E - 216 / 24389 ≤ 1 / 100000000000000000) (F1 : -14 ≤ F) (F2 : F ≤ 14) (hx : ToX F x (1 / 1000000000000) (1 / 10000000000000))
    (hv : (0 ≤ x → x * (1 - 1 / 1000000000000000) - 1 / 1000000000000000000 ≤ v ∧ v ≤ x * (1 + 1 / 1000000000000000) + 1 / 1000000000000000000) ∧ (-4 ≤ x → x ≤ 4 → -(5 / 1000000000000000) ≤ v - x ∧ v - x ≤ 5 / 1000000000000000)) (hg : ToF E v g 1070 (2 / 100000000000000 * 2)) :
    -(6 / 100000000000) ≤ g - F ∧ g - F ≤ 6 / 100000000000 := by
  rcases hx with ⟨g1, x1, x2⟩ | ⟨g1, x1, x2⟩
  · have hF0 : 0 ≤ F := by grind
    have hF3 := cube_mono (show (0 : Rat) ≤ 6 / 29 - 1 / 1000000000000 by decide +kernel) g1
    have hn5 := num5
    obtain ⟨w1, w2⟩ := hv.1 (by grind)
    have v3 : F * F * F * (1 - 4 / 1000000000000000) ≤ v := by clear hg hv; generalize F * F * F = FFF at *; grind
    have v4 : v ≤ F * F * F * (1 + 4 / 1000000000000000) := by clear hg hv; generalize F * F * F = FFF at *; grind
    rcases hg with ⟨u1, g0, -, c1, c2⟩ | ⟨u1, c1, c2⟩
    · obtain ⟨n1, n2⟩ := num3
      have h3 : 0 ≤ F * F * F := by grind
      have up : g ≤ F * (1 + 4 / 1000000000000) := by
        refine cube_le_inv (Rat.mul_nonneg hF0 (by decide +kernel)) ?_
        have e : F * (1 + 4 / 1000000000000) * (F * (1 + 4 / 1000000000000)) * (F * (1 + 4 / 1000000000000)) = F * F * F * ((1 + 4 / 1000000000000) * (1 + 4 / 1000000000000) * (1 + 4 / 1000000000000)) := by grind
        rw [e]
        have := Rat.mul_le_mul_of_nonneg_left n1 h3
        clear e hv x1 x2 w1 w2 hF3 hn5
        grind
      have lo : F * (1 - 4 / 1000000000000) ≤ g := by
        refine cube_le_inv g0 ?_
        have e : F * (1 - 4 / 1000000000000) * (F * (1 - 4 / 1000000000000)) * (F * (1 - 4 / 1000000000000)) = F * F * F * ((1 - 4 / 1000000000000) * (1 - 4 / 1000000000000) * (1 - 4 / 1000000000000)) := by grind
        rw [e]
        have := Rat.mul_le_mul_of_nonneg_left n2 h3
        clear e hv x1 x2 w1 w2 hF3 hn5
        grind
      exact ⟨by grind, by grind⟩
    · have n4 := num4
      have hF4 : F ≤ 6 / 29 + 1 / 1000000000000 := cube_le_inv (by decide +kernel) (by clear hv; generalize F * F * F = FFF at *; grind)
      clear hv
      generalize F * F * F = FFF at *
      exact ⟨by grind, by grind⟩
  · obtain ⟨w1, w2⟩ := hv.2 (by grind) (by grind)
    rcases hg with ⟨u1, g0, -, c1, c2⟩ | ⟨u1, c1, c2⟩
    · have n6 := num6
      have n1 := num1
      have h1 : g ≤ 6 / 29 + 1 / 100000000000 := cube_le_inv (by decide +kernel) (by clear hv; grind)
      have h2 : 6 / 29 - 1 / 100000000000 ≤ g := cube_le_inv g0 (by clear hv; grind)
      exact ⟨by grind, by grind⟩
    · exact ⟨by grind, by grind⟩
end FL
