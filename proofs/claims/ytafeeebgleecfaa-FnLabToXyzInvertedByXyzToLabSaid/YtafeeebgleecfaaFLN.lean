/-
  Plain facts on IEEE double words, continued: rounding does not pass a number that a word can hold; the least positive word; quotients of small numbers.
-/
import Derived.Test.YtafeeebgleecfaaFLL
namespace FL
open Ieee
set_option linter.unusedVariables false
/-- the nearest word does not pass a number of 53 digits -/
theorem near_bound (neg : Bool) (mag : Nat) (place : Int) (hv : (mag : Rat) * p2 place < p2 1023) (c : Nat) (i : Int) (hc : c < 2 ^ 53) (hi : -1074 ≤ i) :
    ∃ a, val (double.nearest neg mag place) = sg neg * a ∧ 0 ≤ a ∧ ((mag : Rat) * p2 place ≤ (c : Rat) * p2 i → a ≤ (c : Rat) * p2 i) ∧ ((c : Rat) * p2 i ≤ (mag : Rat) * p2 place → (c : Rat) * p2 i ≤ a) := by
  by_cases hm : mag = 0
  · subst hm
    have e : double.nearest neg 0 place = double.word neg 0 := by simp [Format.nearest]
    rw [e]
    have z : ((0 : Nat) : Rat) * p2 place = 0 := Rat.zero_mul _
    refine ⟨0, by rw [(word_zero neg).2]; grind, Rat.le_refl, fun h => mp_nonneg _ _, fun h => by rw [z] at h; exact h⟩
  · obtain ⟨K, last, h1, h2, h3, h4, h5, h6, h7, h8, h9⟩ := nearest_core neg mag place hm hv
    refine ⟨(K : Rat) * p2 last, h2, mp_nonneg _ _, ?_, ?_⟩
    · intro hle
      rcases (by omega : last ≤ i ∨ i < last) with hi2 | hi2
      · obtain ⟨e, he⟩ : ∃ e : Nat, i = last + e := ⟨(i - last).toNat, by omega⟩
        have hC : (c : Rat) * p2 i = ((c * 2 ^ e : Nat) : Rat) * p2 last := by rw [nat_p2, he]
        rw [hC] at hle ⊢
        have hK : K ≤ c * 2 ^ e := by
          rcases Nat.lt_or_ge (c * 2 ^ e) K with hlt | hge
          · exfalso
            have q : ((c * 2 ^ e + 1 : Nat) : Rat) ≤ (K : Rat) := by exact_mod_cast hlt
            have q2 := Rat.mul_le_mul_of_nonneg_right q (Rat.le_of_lt (p2_pos last))
            rw [Rat.natCast_add] at q2
            have q3 : ((1 : Nat) : Rat) = 1 := rfl
            have q4 := p2_pos last
            rw [q3] at q2
            grind
          · exact hge
        have q : (K : Rat) ≤ ((c * 2 ^ e : Nat) : Rat) := by exact_mod_cast hK
        exact Rat.mul_le_mul_of_nonneg_right q (Rat.le_of_lt (p2_pos last))
      · exfalso
        rcases h6 with h6 | ⟨h6, -⟩
        · omega
        · have q : (c : Rat) < ((2 ^ 53 : Nat) : Rat) := by exact_mod_cast hc
          have q2 := Rat.mul_lt_mul_of_pos_right q (p2_pos i)
          rw [← p2_nat, ← p2_add] at q2
          have q3 : p2 (((53 : Nat) : Int) + i) ≤ p2 (last + 52) := p2_le (by omega)
          grind
    · intro hle
      rcases (by omega : last ≤ i ∨ i < last) with hi2 | hi2
      · obtain ⟨e, he⟩ : ∃ e : Nat, i = last + e := ⟨(i - last).toNat, by omega⟩
        have hC : (c : Rat) * p2 i = ((c * 2 ^ e : Nat) : Rat) * p2 last := by rw [nat_p2, he]
        rw [hC] at hle ⊢
        have hK : c * 2 ^ e ≤ K := by
          rcases Nat.lt_or_ge K (c * 2 ^ e) with hlt | hge
          · exfalso
            have q : ((K + 1 : Nat) : Rat) ≤ ((c * 2 ^ e : Nat) : Rat) := by exact_mod_cast hlt
            have q2 := Rat.mul_le_mul_of_nonneg_right q (Rat.le_of_lt (p2_pos last))
            rw [Rat.natCast_add] at q2
            have q3 : ((1 : Nat) : Rat) = 1 := rfl
            have q4 := p2_pos last
            rw [q3] at q2
            grind
          · exact hge
        have q : ((c * 2 ^ e : Nat) : Rat) ≤ (K : Rat) := by exact_mod_cast hK
        exact Rat.mul_le_mul_of_nonneg_right q (Rat.le_of_lt (p2_pos last))
      · rcases h6 with h6 | ⟨h6, h6'⟩
        · omega
        · have q : (c : Rat) < ((2 ^ 53 : Nat) : Rat) := by exact_mod_cast hc
          have q2 := Rat.mul_lt_mul_of_pos_right q (p2_pos i)
          rw [← p2_nat, ← p2_add] at q2
          have q3 : p2 (((53 : Nat) : Int) + i) ≤ p2 (((52 : Nat) : Int) + last) := p2_le (by omega)
          have q4 : ((2 ^ 52 : Nat) : Rat) ≤ (K : Rat) := by exact_mod_cast h6'
          have q5 := Rat.mul_le_mul_of_nonneg_right q4 (Rat.le_of_lt (p2_pos last))
          rw [← p2_nat, ← p2_add] at q5
          grind
theorem sgn_alg (a x c : Rat) (s : Rat) (hs : s = 1 ∨ s = -1) (hx : 0 ≤ x) (ha : 0 ≤ a) (hc : 0 ≤ c) (h1 : x ≤ c → a ≤ c) (h2 : c ≤ x → c ≤ a) : (s * x ≤ c → s * a ≤ c) ∧ (-c ≤ s * x → -c ≤ s * a) ∧ (s * x ≤ -c → s * a ≤ -c) ∧ (c ≤ s * x → c ≤ s * a) := by
  rcases hs with rfl | rfl
  · refine ⟨fun h => ?_, fun h => ?_, fun h => ?_, fun h => ?_⟩
    · have := h1 (by grind); grind
    · grind
    · have h0 : x = 0 := by grind
      have hc0 : c = 0 := by grind
      have := h1 (by grind); grind
    · have := h2 (by grind); grind
  · refine ⟨fun h => ?_, fun h => ?_, fun h => ?_, fun h => ?_⟩
    · grind
    · have := h1 (by grind); grind
    · have := h2 (by grind); grind
    · have h0 : x = 0 := by grind
      have hc0 : c = 0 := by grind
      have := h1 (by grind); grind
/-- a sum, or a difference, does not pass a word's value -/
theorem form_bound {b : Bool} {k : Nat} {i : Int} {v : Rat} (ev : v = sg b * ((k : Rat) * p2 i)) (hv1 : -p2 1023 < v) (hv2 : v < p2 1023) (c : Nat) (j : Int) (hc : c < 2 ^ 53) (hj : -1074 ≤ j) :
    (v ≤ (c : Rat) * p2 j → val (double.nearest b k i) ≤ (c : Rat) * p2 j) ∧ (-((c : Rat) * p2 j) ≤ v → -((c : Rat) * p2 j) ≤ val (double.nearest b k i)) ∧ (v ≤ -((c : Rat) * p2 j) → val (double.nearest b k i) ≤ -((c : Rat) * p2 j)) ∧ ((c : Rat) * p2 j ≤ v → (c : Rat) * p2 j ≤ val (double.nearest b k i)) := by
  rw [ev] at hv1 hv2
  obtain ⟨a, e, ha, h1, h2⟩ := near_bound b k i (abs_sg b _ _ hv1 hv2) c j hc hj
  rw [ev, e]
  exact sgn_alg a _ _ _ (sg_cases b) (mp_nonneg _ _) ha (mp_nonneg _ _) h1 h2
/-- the least positive word -/
theorem least_pos {x : Nat} (h : Finite x) (h0 : 0 < val x) : p2 (-1074) ≤ val x := by
  obtain ⟨s, m, i, hr, hm, hi, hi2⟩ := read_fin x h
  have hv : val x = sg s * ((m : Rat) * p2 i) := by simp [val, hr, dval]
  have hnn := mp_nonneg m i
  have hm0 : m ≠ 0 := by
    intro e; subst e
    have z : ((0 : Nat) : Rat) * p2 i = 0 := Rat.zero_mul _
    rw [z] at hv; grind
  have q : ((1 : Nat) : Rat) ≤ (m : Rat) := by exact_mod_cast (by omega : 1 ≤ m)
  have q2 := Rat.mul_le_mul_of_nonneg_right q (Rat.le_of_lt (p2_pos i))
  have q3 : p2 (-1074) ≤ p2 i := p2_le hi
  have q4 : ((1 : Nat) : Rat) = 1 := rfl
  rw [q4] at q2
  rcases sg_cases s with e | e <;> rw [e] at hv <;> grind
theorem eta_half : 2 * eta = p2 (-1074) := by
  have := half_p2 (-1074)
  rw [this]; rfl
/-- a word's value in digits -/
theorem digits {x : Nat} (h : Finite x) (h0 : 0 ≤ val x) : ∃ (c : Nat) (j : Int), c < 2 ^ 53 ∧ -1074 ≤ j ∧ j ≤ 971 ∧ val x = (c : Rat) * p2 j := by
  obtain ⟨s, m, i, hr, hm, hi, hi2⟩ := read_fin x h
  have hv : val x = sg s * ((m : Rat) * p2 i) := by simp [val, hr, dval]
  have hnn := mp_nonneg m i
  rcases sg_cases s with e | e
  · exact ⟨m, i, hm, hi, hi2, by rw [hv, e]; grind⟩
  · rw [e] at hv
    have z : (m : Rat) * p2 i = 0 := by grind
    exact ⟨0, 0, by decide, by decide, by decide, by rw [hv, z]; show _ = ((0 : Nat) : Rat) * p2 0; have : ((0 : Nat) : Rat) = 0 := rfl; rw [this]; grind⟩
end FL
