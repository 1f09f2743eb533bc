/-
  oklab_to_oklch: the angle of two numbers by their signs.
-/
import Derived.Test.YtafeeebgleecfaaPol
namespace Go.Proofs.Ytafeeebgleecfaa.Mat
open Go.ChangeShapes Go.WideShapes Go.ChangeAt Go.RowKit
open FL
open Go.Proofs.Ytafeeebgleecfaa.Fx (negB)
set_option linter.unusedVariables false
theorem copysign_val (c y : Nat) (fc : Finite c) (hc : c < 2 ^ 63) (fy : Finite y) : Finite (c % 2 ^ 63 + (y - y % 2 ^ 63)) ∧ val (c % 2 ^ 63 + (y - y % 2 ^ 63)) = sg (y / 2 ^ 63 % 2 == 1) * val c := by
  have e : c % 2 ^ 63 + (y - y % 2 ^ 63) = Ieee.double.word (y / 2 ^ 63 % 2 == 1) c := by
    rw [Nat.mod_eq_of_lt hc, Nat.add_comm]; exact word_or y c fy.1 hc
  rw [e]
  obtain ⟨w1, w2, w3⟩ := word_lt (y / 2 ^ 63 % 2 == 1) c hc
  have fw : Finite (Ieee.double.word (y / 2 ^ 63 % 2 == 1) c) := ⟨w1, by rw [w2]; have := fc.2; rw [Nat.mod_eq_of_lt hc] at this; exact this⟩
  refine ⟨fw, ?_⟩
  rw [val_sg _ fw, w3]
  unfold mag
  rw [w2]
theorem sign_of (y : Nat) (fy : Finite y) (h0 : val y ≠ 0) : sg (y / 2 ^ 63 % 2 == 1) = if 0 < val y then 1 else -1 := by
  have hs := val_sg y fy
  have hm := (mag_bounds y fy.1).1
  rcases sg_cases (y / 2 ^ 63 % 2 == 1) with e | e
  · rw [e] at hs ⊢
    have : 0 < val y := by
      rcases (by grind : 0 < val y ∨ val y ≤ 0) with h | h
      · exact h
      · exfalso; apply h0; grind
    rw [if_pos this]
  · rw [e] at hs ⊢
    have : ¬ 0 < val y := by grind
    rw [if_neg this]
def Zone3 (x : Nat) : Prop := Finite x ∧ (val x = 0 ∨ (p2 (-340) ≤ val (mag x) ∧ val (mag x) ≤ p2 340))
theorem zone3 {x : Nat} (h : Zone3 x) : Zone x := by
  refine ⟨h.1, ?_⟩
  rcases h.2 with e | ⟨h1, h2⟩
  · exact .inl e
  · have g1 : p2 (-400) ≤ p2 (-340) := p2_le (by decide)
    have g2 : p2 340 ≤ p2 400 := p2_le (by decide)
    exact .inr ⟨by grind, by grind⟩
/-- the quotient of two numbers in their ranges -/
theorem quo58 (b a : Nat) (fb : Finite b) (fa : Finite a) (b1 : p2 (-340) ≤ val (mag b)) (b2 : val (mag b) ≤ p2 340) (a1 : p2 (-340) ≤ val (mag a)) (a2 : val (mag a) ≤ p2 340) :
    ∃ q, Ieee.double.div b a = some q ∧ Finite q ∧ p2 (-800) ≤ val (mag q) ∧ val (mag q) ≤ p2 800 ∧ ((0 < val b ∧ 0 < val a ∨ val b < 0 ∧ val a < 0) → 0 < val q) ∧ ((0 < val b ∧ val a < 0 ∨ val b < 0 ∧ 0 < val a) → val q < 0) := by
  have hu : u = 1 / 9007199254740992 := rfl
  have he0 := eta_pos
  have hp := p2_pos (-340)
  have hpp := p2_pos 340
  have mb := mag_bounds b fb.1
  have ma := mag_bounds a fa.1
  have ha0 : val a ≠ 0 := by intro e; rcases ma.2.2.2 with e' | e' <;> rw [e', e] at a1 <;> grind
  obtain ⟨V, hV⟩ : ∃ V, V = val (mag b) / val (mag a) := ⟨_, rfl⟩
  have hma : 0 < val (mag a) := by grind
  have hVa : V * val (mag a) = val (mag b) := by rw [hV]; exact Rat.div_mul_cancel (by grind)
  have V2 : V ≤ p2 680 := mul_le_cancel hma (by
    rw [hVa]
    have q := Rat.mul_le_mul_of_nonneg_left a1 (Rat.le_of_lt (p2_pos 680))
    rw [← p2_add] at q
    have e : (680 + -340 : Int) = 340 := rfl
    rw [e] at q; grind)
  have V1 : p2 (-680) ≤ V := mul_le_cancel hma (by
    rw [hVa]
    have q := Rat.mul_le_mul_of_nonneg_left a2 (Rat.le_of_lt (p2_pos (-680)))
    rw [← p2_add] at q
    have e : (-680 + 340 : Int) = -340 := rfl
    rw [e] at q; grind)
  have h68 := p2_pos (-680)
  have heta : eta ≤ p2 (-680) / 1000 := by
    have g1 : p2 (-680) = p2 (-1074) * p2 394 := by rw [← p2_add]; rfl
    have g2 : p2 20 ≤ p2 394 := p2_le (by decide)
    have g3 : p2 20 = 1048576 := by decide +kernel
    have g4 := Rat.mul_le_mul_of_nonneg_left g2 (Rat.le_of_lt (p2_pos (-1074)))
    have g5 := eta_half
    rw [g3] at g4
    clear hVa V1 V2
    grind
  have hbig : 2 * p2 680 ≤ p2 800 ∧ p2 800 < p2 1022 ∧ 2 * p2 (-800) ≤ p2 (-680) := by
    have g1 : p2 800 = p2 680 * p2 120 := by rw [← p2_add]; rfl
    have g2 : p2 1 ≤ p2 120 := p2_le (by decide)
    have g3 := Rat.mul_le_mul_of_nonneg_left g2 (Rat.le_of_lt (p2_pos 680))
    have g4 : p2 1022 = p2 800 * p2 222 := by rw [← p2_add]; rfl
    have g5 : p2 1 ≤ p2 222 := p2_le (by decide)
    have g6 := Rat.mul_le_mul_of_nonneg_left g5 (Rat.le_of_lt (p2_pos 800))
    have g7 : p2 (-680) = p2 (-800) * p2 120 := by rw [← p2_add]; rfl
    have g8 := Rat.mul_le_mul_of_nonneg_left g2 (Rat.le_of_lt (p2_pos (-800)))
    have g9 := p2_pos 800
    rw [p2_one] at g3 g6 g8
    exact ⟨by grind, by grind, by grind⟩
  obtain ⟨v, hv, hvV, hs1, hs2⟩ : ∃ v, v * val a = val b ∧ (v = V ∨ v = -V) ∧ ((0 < val b ∧ 0 < val a ∨ val b < 0 ∧ val a < 0) → v = V) ∧ ((0 < val b ∧ val a < 0 ∨ val b < 0 ∧ 0 < val a) → v = -V) := by
    rcases mb.2.2.2 with e | e <;> rcases ma.2.2.2 with e' | e' <;> rw [e] at hVa <;> rw [e'] at hVa
    · exact ⟨V, hVa, .inl rfl, fun _ => rfl, fun h => by grind⟩
    · exact ⟨-V, by grind, .inr rfl, fun h => by grind, fun _ => rfl⟩
    · exact ⟨-V, by grind, .inr rfl, fun h => by grind, fun _ => rfl⟩
    · exact ⟨V, by grind, .inl rfl, fun _ => rfl, fun h => by grind⟩
  obtain ⟨q, e1, f1, r1⟩ := div_ok b a fb fa ha0 v hv (by grind) (by grind)
  have s1 := r1 V (by grind) (by grind)
  rw [hu] at s1
  clear r1
  have mq := mag_bounds q f1.1
  refine ⟨q, e1, f1, ?_, ?_, ?_, ?_⟩
  · clear hVa hV hv
    rcases mq.2.2.2 with e | e <;> rw [e] <;> rcases hvV with h | h <;> grind
  · clear hVa hV hv
    rcases mq.2.2.2 with e | e <;> rw [e] <;> rcases hvV with h | h <;> grind
  · intro h; have := hs1 h; clear hVa hV hv; grind
  · intro h; have := hs2 h; clear hVa hV hv; grind
end Go.Proofs.Ytafeeebgleecfaa.Mat
