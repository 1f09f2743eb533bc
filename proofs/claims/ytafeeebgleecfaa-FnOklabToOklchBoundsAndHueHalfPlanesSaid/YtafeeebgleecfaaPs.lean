/-
  oklab_to_oklch: chroma and hue by the signs of its arguments.
-/
import Derived.Test.YtafeeebgleecfaaPr
namespace Go.Proofs.Ytafeeebgleecfaa.Mat
open Go.ChangeShapes Go.WideShapes Go.ChangeAt Go.RowKit
open FL
set_option linter.unusedVariables false
/-- where the hue lies -/
def Hue58 (a b h : Rat) : Prop :=
  (¬ (a = 0 ∧ b = 0) → 0 ≤ h ∧ h ≤ 360) ∧
  (0 < b → 0 < h ∧ h ≤ 180 + 1 / 2000000000) ∧ (0 < b → 0 < a → h ≤ 90 + 1 / 2000000000) ∧ (0 < b → a < 0 → 90 - 1 / 2000000000 ≤ h) ∧ (0 < b → a = 0 → 90 - 1 / 2000000000 ≤ h ∧ h ≤ 90 + 1 / 2000000000) ∧
  (b < 0 → 180 - 1 / 2000000000 ≤ h) ∧ (b < 0 → 0 < a → 270 - 1 / 2000000000 ≤ h) ∧ (b < 0 → a < 0 → h ≤ 270 + 1 / 2000000000) ∧ (b < 0 → a = 0 → 270 - 1 / 2000000000 ≤ h ∧ h ≤ 270 + 1 / 2000000000) ∧
  (b = 0 → 0 < a → h = 0) ∧ (b = 0 → a < 0 → 180 - 1 / 2000000000 ≤ h ∧ h ≤ 180 + 1 / 2000000000)
theorem deg_le {an D : Rat} (d1 : 5729577951308 / 100000000000 ≤ D) (d2 : D ≤ 5729577951309 / 100000000000) (x : Rat) (hx : 0 ≤ x) :
    (an ≤ x → an * D ≤ x * (5729577951309 / 100000000000)) ∧ (x ≤ an → x * (5729577951308 / 100000000000) ≤ an * D) ∧ (-x ≤ an → -(x * (5729577951309 / 100000000000)) ≤ an * D) ∧ (an ≤ -x → an * D ≤ -(x * (5729577951308 / 100000000000))) := by
  have hD : 0 ≤ D := by grind
  refine ⟨fun h => ?_, fun h => ?_, fun h => ?_, fun h => ?_⟩
  · have q1 := Rat.mul_le_mul_of_nonneg_right h hD
    have q2 := Rat.mul_le_mul_of_nonneg_left d2 hx
    grind
  · have q1 := Rat.mul_le_mul_of_nonneg_right h hD
    have q2 := Rat.mul_le_mul_of_nonneg_left d1 hx
    grind
  · have q1 := Rat.mul_le_mul_of_nonneg_right h hD
    have q2 := Rat.mul_le_mul_of_nonneg_left d2 hx
    grind
  · have q1 := Rat.mul_le_mul_of_nonneg_right h hD
    have q2 := Rat.mul_le_mul_of_nonneg_left d1 hx
    grind
theorem hue58_of {a b an h D : Rat} (d1 : 5729577951308 / 100000000000 ≤ D) (d2 : D ≤ 5729577951309 / 100000000000) (hA : Ang a b an)
    (hp : 0 < an → 0 < h ∧ an * D - 1 / 100000000000 ≤ h ∧ h ≤ an * D + 1 / 100000000000) (hz : an = 0 → h = 0) (hn : an < 0 → h ≤ 360 ∧ 360 + an * D - 1 / 100000000000 ≤ h ∧ h ≤ 360 + an * D + 1 / 100000000000) : Hue58 a b h := by
  obtain ⟨A1, A2, A3, A4, A5, A6, A7, A8⟩ := hA
  obtain ⟨p1, p2, p3, p4⟩ := deg_le (an := an) d1 d2 (157079632679491 / 100000000000000) (by decide +kernel)
  obtain ⟨q1, q2, q3, q4⟩ := deg_le (an := an) d1 d2 (157079632679486 / 100000000000000) (by decide +kernel)
  obtain ⟨r1, r2, r3, r4⟩ := deg_le (an := an) d1 d2 (314159265358982 / 100000000000000) (by decide +kernel)
  obtain ⟨s1, s2, s3, s4⟩ := deg_le (an := an) d1 d2 (314159265358978 / 100000000000000) (by decide +kernel)
  generalize an * D = T at *
  clear d1 d2
  rcases (by grind : 0 < b ∨ b < 0 ∨ b = 0) with hb | hb | hb
  · rcases (by grind : 0 < a ∨ a < 0 ∨ a = 0) with ha | ha | ha
    · have g := A1 hb ha
      have g1 := p1 g.2
      have g2 := hp g.1
      clear A1 A2 A3 A4 A5 A6 A7 A8 p1 p2 p3 p4 q1 q2 q3 q4 r1 r2 r3 r4 s1 s2 s3 s4 hp hz hn
      refine ⟨fun _ => ⟨by grind, by grind⟩, fun _ => ⟨by grind, by grind⟩, fun _ _ => by grind, fun _ h' => by grind, fun _ h' => by grind, fun h' => by grind, fun h' => by grind, fun h' => by grind, fun h' => by grind, fun h' => by grind, fun h' => by grind⟩
    · have g := A2 hb ha
      have g1 := r1 g.2
      have g3 := q2 g.1
      have g2 := hp (by grind)
      clear A1 A2 A3 A4 A5 A6 A7 A8 p1 p2 p3 p4 q1 q2 q3 q4 r1 r2 r3 r4 s1 s2 s3 s4 hp hz hn
      refine ⟨fun _ => ⟨by grind, by grind⟩, fun _ => ⟨by grind, by grind⟩, fun _ h' => by grind, fun _ _ => by grind, fun _ h' => by grind, fun h' => by grind, fun h' => by grind, fun h' => by grind, fun h' => by grind, fun h' => by grind, fun h' => by grind⟩
    · have g := A3 hb ha
      have g1 := p1 g.2
      have g3 := q2 g.1
      have g2 := hp (by grind)
      clear A1 A2 A3 A4 A5 A6 A7 A8 p1 p2 p3 p4 q1 q2 q3 q4 r1 r2 r3 r4 s1 s2 s3 s4 hp hz hn
      refine ⟨fun _ => ⟨by grind, by grind⟩, fun _ => ⟨by grind, by grind⟩, fun _ h' => by grind, fun _ h' => by grind, fun _ _ => ⟨by grind, by grind⟩, fun h' => by grind, fun h' => by grind, fun h' => by grind, fun h' => by grind, fun h' => by grind, fun h' => by grind⟩
  · rcases (by grind : 0 < a ∨ a < 0 ∨ a = 0) with ha | ha | ha
    · have g := A4 hb ha
      have g1 := p3 g.1
      have g2 := hn g.2
      clear A1 A2 A3 A4 A5 A6 A7 A8 p1 p2 p3 p4 q1 q2 q3 q4 r1 r2 r3 r4 s1 s2 s3 s4 hp hz hn
      refine ⟨fun _ => ⟨by grind, by grind⟩, fun h' => by grind, fun h' => by grind, fun h' => by grind, fun h' => by grind, fun _ => by grind, fun _ _ => by grind, fun _ h' => by grind, fun _ h' => by grind, fun h' => by grind, fun h' => by grind⟩
    · have g := A5 hb ha
      have g1 := r3 g.1
      have g3 := q4 g.2
      have g2 := hn (by grind)
      clear A1 A2 A3 A4 A5 A6 A7 A8 p1 p2 p3 p4 q1 q2 q3 q4 r1 r2 r3 r4 s1 s2 s3 s4 hp hz hn
      refine ⟨fun _ => ⟨by grind, by grind⟩, fun h' => by grind, fun h' => by grind, fun h' => by grind, fun h' => by grind, fun _ => by grind, fun _ h' => by grind, fun _ _ => by grind, fun _ h' => by grind, fun h' => by grind, fun h' => by grind⟩
    · have g := A6 hb ha
      have g1 := p3 g.1
      have g3 := q4 g.2
      have g2 := hn (by grind)
      clear A1 A2 A3 A4 A5 A6 A7 A8 p1 p2 p3 p4 q1 q2 q3 q4 r1 r2 r3 r4 s1 s2 s3 s4 hp hz hn
      refine ⟨fun _ => ⟨by grind, by grind⟩, fun h' => by grind, fun h' => by grind, fun h' => by grind, fun h' => by grind, fun _ => by grind, fun _ h' => by grind, fun _ h' => by grind, fun _ _ => ⟨by grind, by grind⟩, fun h' => by grind, fun h' => by grind⟩
  · rcases (by grind : 0 < a ∨ a < 0 ∨ a = 0) with ha | ha | ha
    · have g := A7 hb ha
      have g2 := hz g
      clear A1 A2 A3 A4 A5 A6 A7 A8 p1 p2 p3 p4 q1 q2 q3 q4 r1 r2 r3 r4 s1 s2 s3 s4 hp hz hn
      refine ⟨fun _ => ⟨by grind, by grind⟩, fun h' => by grind, fun h' => by grind, fun h' => by grind, fun h' => by grind, fun h' => by grind, fun h' => by grind, fun h' => by grind, fun h' => by grind, fun _ _ => g2, fun _ h' => by grind⟩
    · have g := A8 hb ha
      rcases g with g | g
      · have g1 := r1 g.2
        have g3 := s2 g.1
        have g2 := hp (by grind)
        clear A1 A2 A3 A4 A5 A6 A7 A8 p1 p2 p3 p4 q1 q2 q3 q4 r1 r2 r3 r4 s1 s2 s3 s4 hp hz hn
        refine ⟨fun _ => ⟨by grind, by grind⟩, fun h' => by grind, fun h' => by grind, fun h' => by grind, fun h' => by grind, fun h' => by grind, fun h' => by grind, fun h' => by grind, fun h' => by grind, fun _ h' => by grind, fun _ _ => ⟨by grind, by grind⟩⟩
      · have g1 := r3 g.1
        have g3 := s4 g.2
        have g2 := hn (by grind)
        clear A1 A2 A3 A4 A5 A6 A7 A8 p1 p2 p3 p4 q1 q2 q3 q4 r1 r2 r3 r4 s1 s2 s3 s4 hp hz hn
        refine ⟨fun _ => ⟨by grind, by grind⟩, fun h' => by grind, fun h' => by grind, fun h' => by grind, fun h' => by grind, fun h' => by grind, fun h' => by grind, fun h' => by grind, fun h' => by grind, fun _ h' => by grind, fun _ _ => ⟨by grind, by grind⟩⟩
    · refine ⟨fun h' => absurd ⟨ha, hb⟩ h', fun h' => by grind, fun h' => by grind, fun h' => by grind, fun h' => by grind, fun h' => by grind, fun h' => by grind, fun h' => by grind, fun h' => by grind, fun _ h' => by grind, fun _ h' => by grind⟩
/-- oklab_to_oklch over two numbers in their ranges -/
theorem okl58 (l a b : Nat) (ha : Zone3 a) (hb : Zone3 b) : ∃ c h, (∀ w, Calls Try.prog 38 #[.float .f64 l, .float .f64 a, .float .f64 b] w fun e w' => e = .returned (.tuple #[.float .f64 l, .float .f64 c, .float .f64 h]) ∧ Below w.heap.size w w') ∧
    Finite c ∧ Finite h ∧ val (mag a) ≤ val c ∧ val (mag b) ≤ val c ∧ val c ≤ (val (mag a) + val (mag b)) * (1 + 5 / 9007199254740992) ∧ (val a = 0 → val b = 0 → val c = 0) ∧ Hue58 (val a) (val b) (val h) := by
  obtain ⟨an, hat, fan, b1, b2, hA⟩ := ang_any a b ha hb
  obtain ⟨h, hh, fh, k1, k2, k3⟩ := hue_of an fan b1 b2
  obtain ⟨a2, b2', s2, c, e1, e2, e3, e4, fc, c1, c2, c3, c4⟩ := chroma58 a b (zone3 ha) (zone3 hb)
  obtain ⟨fd, d1, d2⟩ := kDeg
  exact ⟨c, h, okl_any l a b an h a2 b2' s2 c hat hh e1 e2 e3 e4, fc, fh, c1, c2, c3, c4, hue58_of d1 d2 hA k1 k2 k3⟩
end Go.Proofs.Ytafeeebgleecfaa.Mat
