import Derived.Test.YtoaanhipdjjeiaaIs
namespace Go.Proofs.Ytoaanhipdjjeiaa.Scan
open Go.ChangeShapes Go.WideShapes Go.ChangeAt Go.RowKit Go.Deep
set_option linter.unusedVariables false
section
variable (B g n p m : Nat) (K S L : Nat → Int) (T : Nat → ByteArray) (w0 : World)
def ValP (A : Option Addr) (w : World) (e : Ending) (w' : World) : Prop :=
  ∃ (k : Nat) (A' : Option Addr), k ≤ m ∧ (k = 0 ∨ k = 1 ∨ k = 3) ∧ e = .returned (.tuple #[.slice A k m, .slice A' (m - k) (m - k)]) ∧ (0 < m - k → A' = some ⟨g, (p + k) * 7, none⟩) ∧ TB B g n (p + k) K S L T w0 w' ∧ ∀ b o, b ≠ g → w'.cell? ⟨b, o, none⟩ = w.cell? ⟨b, o, none⟩
def ScaP (w : World) (e : Ending) (w' : World) : Prop :=
  ∃ (c : Int) (A' : Option Addr), 0 ≤ c ∧ c ≤ 5 ∧ widthN c ≤ m ∧ e = .returned (.tuple #[.int .u8 c, .slice A' (m - widthN c) (m - widthN c)]) ∧ (0 < m - widthN c → A' = some ⟨g, (p + widthN c) * 7, none⟩) ∧ OpAt n K S p c ∧ ∃ nq, w' = w.drewN nq
end
section
variable {B g n p m : Nat} {K S L : Nat → Int} {T : Nat → ByteArray} {w0 w : World}
theorem two_far {w : World} (g : Nat) {o o' : Nat} {x y : Value} {k : Nat} : ∀ b i, b ≠ g → (((w.setCell ⟨g, o, none⟩ x).setCell ⟨g, o', none⟩ y).drewN k).cell? ⟨b, i, none⟩ = w.cell? ⟨b, i, none⟩ := by
  intro b i hb
  show ((w.setCell ⟨g, o, none⟩ x).setCell ⟨g, o', none⟩ y).cell? ⟨b, i, none⟩ = _
  rw [World.cell?_setCell_other, World.cell?_setCell_other]
  · intro e; injection e with e1; exact hb e1.symm
  · intro e; injection e with e1; exact hb e1.symm
theorem val_one (h : TB B g n p K S L T w0 w) (hp : p < n) (hm : 1 ≤ m) {e : Ending} {w' : World} (hv : VW g (p * 7) m 1 (p * 7 + 6) w e w') : ValP B g n p m K S L T w0 (some ⟨g, p * 7, none⟩) w e w' := by
  obtain ⟨A', nq, x, y, he, hA, rfl⟩ := hv
  refine ⟨1, A', hm, .inr (.inl rfl), he, fun h => ?_, ?_, two_far g⟩
  · rw [hA h]; congr 2; omega
  · exact ((h.trim (i := p) (p' := p + 1) (by omega) (by omega) hp x).trim (i := p) (p' := p + 1) (by omega) (by omega) hp y).drewN nq
theorem val_three (h : TB B g n p K S L T w0 w) (hp : p + 2 < n) (hm : 3 ≤ m) {e : Ending} {w' : World} (hv : VW g (p * 7) m 3 (p * 7 + 20) w e w') : ValP B g n p m K S L T w0 (some ⟨g, p * 7, none⟩) w e w' := by
  obtain ⟨A', nq, x, y, he, hA, rfl⟩ := hv
  refine ⟨3, A', hm, .inr (.inr rfl), he, fun h => ?_, ?_, two_far g⟩
  · rw [hA h]; congr 2; omega
  · have := ((h.trim (i := p) (p' := p + 3) (by omega) (by omega) (by omega) x).trim (i := p + 2) (p' := p + 3) (by omega) (by omega) hp y).drewN nq
    have e : (p + 2) * 7 + 6 = p * 7 + 20 := by omega
    rw [e] at this
    exact this
theorem val_zero (h : TB B g n p K S L T w0 w) {A : Option Addr} (hA : 0 < m → A = some ⟨g, p * 7, none⟩) {e : Ending} {w' : World} (hv : V0 A m w e w') : ValP B g n p m K S L T w0 A w e w' := by
  obtain ⟨nq, he, rfl⟩ := hv
  exact ⟨0, A, by omega, .inl rfl, he, fun h => hA (by omega), h.drewN nq, fun _ _ _ => rfl⟩
theorem val_any (A : Option Addr) (hpm : p + m = n) (hn : (n : Int) ≤ 16384) (hA : 0 < m → A = some ⟨g, p * 7, none⟩) (h : TB B g n p K S L T w0 w) :
    Calls Try.prog 14 #[.slice A m m] w (ValP B g n p m K S L T w0 A w) := by
  rcases Nat.eq_zero_or_pos m with h0 | h0
  · subst h0
    exact (val_m0 A w).mono fun e w' hv => val_zero h hA hv
  obtain rfl := hA h0
  obtain ⟨-, -, -, -, -, c0, -⟩ := h.1 p (by omega)
  have c1 := h.2.1 p (Nat.le_refl _) (by omega)
  have hf := h.2.2.1
  have hm2 : (m : Int) ≤ 16384 := by omega
  by_cases k26 : K p = 26
  · rw [k26] at c0
    rcases (by omega : m = 1 ∨ m = 2 ∨ 3 ≤ m) with rfl | rfl | h3
    · exact (val_26_1 g (p * 7) 0 _ 0 0 0 w c0 c1 hf).mono fun e w' hv => val_one h (by omega) (by omega) hv
    · exact (val_26_2 g (p * 7) 0 _ 0 0 0 w c0 c1 hf).mono fun e w' hv => val_one h (by omega) (by omega) hv
    · exact (val_26_m m h3 hm2 g (p * 7) 0 _ 0 0 0 w c0 c1 hf).mono fun e w' hv => val_one h (by omega) (by omega) hv
  by_cases k29 : K p = 29
  · rw [k29] at c0
    rcases (by omega : m = 1 ∨ m = 2 ∨ 3 ≤ m) with rfl | rfl | h3
    · exact (val_29_1 g (p * 7) 0 _ 0 0 0 w c0 c1 hf).mono fun e w' hv => val_one h (by omega) (by omega) hv
    · exact (val_29_2 g (p * 7) 0 _ 0 0 0 w c0 c1 hf).mono fun e w' hv => val_one h (by omega) (by omega) hv
    · exact (val_29_m m h3 hm2 g (p * 7) 0 _ 0 0 0 w c0 c1 hf).mono fun e w' hv => val_one h (by omega) (by omega) hv
  by_cases k30 : K p = 30
  · rw [k30] at c0
    rcases (by omega : m = 1 ∨ m = 2 ∨ 3 ≤ m) with rfl | rfl | h3
    · exact (val_30_1 g (p * 7) 0 _ 0 0 0 w c0 c1 hf).mono fun e w' hv => val_one h (by omega) (by omega) hv
    · exact (val_30_2 g (p * 7) 0 _ 0 0 0 w c0 c1 hf).mono fun e w' hv => val_one h (by omega) (by omega) hv
    · obtain ⟨-, -, -, -, -, d0, -⟩ := h.1 (p + 1) (by omega)
      obtain ⟨-, -, -, -, -, e0, -⟩ := h.1 (p + 2) (by omega)
      have e1 := h.2.1 (p + 2) (by omega) (by omega)
      rw [show (p + 1) * 7 + 5 = p * 7 + 12 by omega] at d0
      rw [show (p + 2) * 7 + 5 = p * 7 + 19 by omega] at e0
      rw [show (p + 2) * 7 + 6 = p * 7 + 20 by omega] at e1
      by_cases k24 : K (p + 1) = 24
      · rw [k24] at d0
        by_cases k30' : K (p + 2) = 30
        · rw [k30'] at e0
          rcases (by omega : m = 3 ∨ 4 ≤ m) with rfl | h4
          · exact (val_30_r3 g (p * 7) 0 _ 0 0 _ w c0 c1 hf d0 e0 e1).mono fun e w' hv => val_three h (by omega) (by omega) hv
          · exact (val_30_rm m h4 hm2 g (p * 7) 0 _ 0 0 _ w c0 c1 hf d0 e0 e1).mono fun e w' hv => val_three h (by omega) (by omega) hv
        · exact (val_30_mb m h3 hm2 g (p * 7) 0 _ 0 _ 0 w c0 c1 hf d0 e0 (by simpa using k30')).mono fun e w' hv => val_one h (by omega) (by omega) hv
      · exact (val_30_ma m h3 hm2 g (p * 7) 0 _ _ 0 0 w c0 c1 hf d0 (by simpa using k24)).mono fun e w' hv => val_one h (by omega) (by omega) hv
  exact (val_none m h0 hm2 g (p * 7) _ _ 0 0 0 w c0 c1 hf (by simpa using k26) (by simpa using k29) (by simpa using k30)).mono fun e w' hv => val_zero h (fun _ => rfl) hv
theorem sca_of {c : Int} (h0 : 0 < c) (h5 : c ≤ 5) {k : Nat} (hk : widthN c = k) (hm : k ≤ m) (ho : OpAt n K S p c) {e : Ending} {w' : World} (hv : SW g (p * 7) m k c w e w') : ScaP g n p m K S w e w' := by
  subst hk
  obtain ⟨A', nq, he, hA, rfl⟩ := hv
  exact ⟨c, A', by omega, h5, hm, he, fun h => by rw [hA h]; congr 2; omega, ho, nq, rfl⟩
theorem sca_zero {A : Option Addr} (hA : 0 < m → A = some ⟨g, p * 7, none⟩) {e : Ending} {w' : World} (hv : S0 A m w e w') : ScaP g n p m K S w e w' := by
  obtain ⟨he, rfl⟩ := hv
  exact ⟨0, A, by omega, by omega, Nat.zero_le _, he, fun h => hA (by simpa [widthN] using h), .inl rfl, 0, (World.drewN_zero _).symm⟩
theorem sca_any (A : Option Addr) (hpm : p + m = n) (hn : (n : Int) ≤ 16384) (hA : 0 < m → A = some ⟨g, p * 7, none⟩) (h : TB B g n p K S L T w0 w) :
    Calls Try.prog 15 #[.slice A m m] w (ScaP g n p m K S w) := by
  rcases Nat.eq_zero_or_pos m with h0 | h0
  · subst h0
    exact (sca_m0 A w).mono fun e w' hv => sca_zero hA hv
  obtain rfl := hA h0
  obtain ⟨-, -, -, -, -, c0, -⟩ := h.1 p (by omega)
  have c1 := h.2.1 p (Nat.le_refl _) (by omega)
  have hm2 : (m : Int) ≤ 16384 := by omega
  by_cases k18 : K p = 18
  · rw [k18] at c0
    have ho : OpAt n K S p 1 := .inr ⟨by omega, by simp [widthN]; omega, k18, fun h => absurd h (by simp [widthN])⟩
    rcases (by omega : m = 1 ∨ 2 ≤ m) with rfl | h2
    · exact (sca_eq_1 g (p * 7) 0 0 _ 0 w c0 c1).mono fun e w' hv => sca_of (by omega) (by omega) (by rfl) (by omega) ho hv
    · exact (sca_eq_m m h2 hm2 g (p * 7) 0 0 _ 0 w c0 c1).mono fun e w' hv => sca_of (by omega) (by omega) (by rfl) (by omega) ho hv
  by_cases k21 : K p = 21
  · rw [k21] at c0
    have ho : OpAt n K S p 2 := .inr ⟨by omega, by simp [widthN]; omega, k21, fun h => absurd h (by simp [widthN])⟩
    rcases (by omega : m = 1 ∨ 2 ≤ m) with rfl | h2
    · exact (sca_lt_1 g (p * 7) 0 0 _ 0 w c0 c1).mono fun e w' hv => sca_of (by omega) (by omega) (by rfl) (by omega) ho hv
    · obtain ⟨-, -, -, -, -, d0, -⟩ := h.1 (p + 1) (by omega)
      have d1 := h.2.1 (p + 1) (by omega) (by omega)
      rw [show (p + 1) * 7 + 5 = p * 7 + 12 by omega] at d0
      rw [show (p + 1) * 7 + 6 = p * 7 + 13 by omega] at d1
      by_cases k1 : K (p + 1) = 18
      · rw [k1] at d0
        cases hfl : (bits BinOp.or IntKind.u8 (bits BinOp.and IntKind.u8 (S p) 2) (bits BinOp.and IntKind.u8 (S (p + 1)) 1) == 0) with
        | false => exact (sca_lt_sp m h2 hm2 g (p * 7) 0 0 _ _ w c0 c1 d0 d1 hfl).mono fun e w' hv => sca_of (by omega) (by omega) (by rfl) (by omega) ho hv
        | true =>
          have ho : OpAt n K S p 3 := .inr ⟨by omega, by simp [widthN]; omega, k21, fun _ => ⟨k1, hfl⟩⟩
          rcases (by omega : m = 2 ∨ 3 ≤ m) with rfl | h3
          · exact (sca_lt_y2 g (p * 7) 0 0 _ _ w c0 c1 d0 d1 hfl).mono fun e w' hv => sca_of (by omega) (by omega) (by rfl) (by omega) ho hv
          · exact (sca_lt_ym m h3 hm2 g (p * 7) 0 0 _ _ w c0 c1 d0 d1 hfl).mono fun e w' hv => sca_of (by omega) (by omega) (by rfl) (by omega) ho hv
      · exact (sca_lt_ne m h2 hm2 g (p * 7) 0 _ _ _ w c0 c1 d0 d1 (by simpa using k1)).mono fun e w' hv => sca_of (by omega) (by omega) (by rfl) (by omega) ho hv
  by_cases k20 : K p = 20
  · rw [k20] at c0
    have ho : OpAt n K S p 4 := .inr ⟨by omega, by simp [widthN]; omega, k20, fun h => absurd h (by simp [widthN])⟩
    rcases (by omega : m = 1 ∨ 2 ≤ m) with rfl | h2
    · exact (sca_gt_1 g (p * 7) 0 0 _ 0 w c0 c1).mono fun e w' hv => sca_of (by omega) (by omega) (by rfl) (by omega) ho hv
    · obtain ⟨-, -, -, -, -, d0, -⟩ := h.1 (p + 1) (by omega)
      have d1 := h.2.1 (p + 1) (by omega) (by omega)
      rw [show (p + 1) * 7 + 5 = p * 7 + 12 by omega] at d0
      rw [show (p + 1) * 7 + 6 = p * 7 + 13 by omega] at d1
      by_cases k1 : K (p + 1) = 18
      · rw [k1] at d0
        cases hfl : (bits BinOp.or IntKind.u8 (bits BinOp.and IntKind.u8 (S p) 2) (bits BinOp.and IntKind.u8 (S (p + 1)) 1) == 0) with
        | false => exact (sca_gt_sp m h2 hm2 g (p * 7) 0 0 _ _ w c0 c1 d0 d1 hfl).mono fun e w' hv => sca_of (by omega) (by omega) (by rfl) (by omega) ho hv
        | true =>
          have ho : OpAt n K S p 5 := .inr ⟨by omega, by simp [widthN]; omega, k20, fun _ => ⟨k1, hfl⟩⟩
          rcases (by omega : m = 2 ∨ 3 ≤ m) with rfl | h3
          · exact (sca_gt_y2 g (p * 7) 0 0 _ _ w c0 c1 d0 d1 hfl).mono fun e w' hv => sca_of (by omega) (by omega) (by rfl) (by omega) ho hv
          · exact (sca_gt_ym m h3 hm2 g (p * 7) 0 0 _ _ w c0 c1 d0 d1 hfl).mono fun e w' hv => sca_of (by omega) (by omega) (by rfl) (by omega) ho hv
      · exact (sca_gt_ne m h2 hm2 g (p * 7) 0 _ _ _ w c0 c1 d0 d1 (by simpa using k1)).mono fun e w' hv => sca_of (by omega) (by omega) (by rfl) (by omega) ho hv
  exact (sca_none m h0 hm2 g (p * 7) _ 0 _ 0 w c0 c1 (by simpa using k18) (by simpa using k21) (by simpa using k20)).mono fun e w' hv => sca_zero (fun _ => rfl) hv
end
end Go.Proofs.Ytoaanhipdjjeiaa.Scan
