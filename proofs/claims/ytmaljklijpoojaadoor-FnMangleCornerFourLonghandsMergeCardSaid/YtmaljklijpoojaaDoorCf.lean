/-
  zzCheckValue.
-/
import Derived.Test.YtmaljklijpoojaaDoorCe
namespace Go.Proofs.YtmaljklijpoojaaDoor.Co
open Go.ChangeShapes Go.WideShapes Go.ChangeAt Go.RowKit Rg Quad
set_option linter.unusedVariables false
set_option linter.unusedSimpArgs false
/-- the value that two quads make -/
def VX (q1 q2 : Nat → Int) (mf : Bool) (n : Nat) (X : Nat → TY) : Prop :=
  (qeq q1 q2 = true ∧ n = mN q1 ∧ ∀ i, i < mN q1 → X i = (q1 i, wsv mf (mN q1) i)) ∨
  (qeq q1 q2 = false ∧ n = mN q1 + 1 + mN q2 ∧ (∀ i, i < mN q1 → X i = (q1 i, wsv mf (mN q1) i)) ∧ X (mN q1) = (7, if mf then 0 else 3) ∧ ∀ i, i < mN q2 → X (mN q1 + 1 + i) = (q2 i, wsv mf (mN q2) i))
theorem mN_cases (q : Nat → Int) : (mN q = 1 ∧ q 3 = q 1 ∧ q 2 = q 0 ∧ q 1 = q 0) ∨ (mN q = 2 ∧ q 3 = q 1 ∧ q 2 = q 0 ∧ ¬ q 1 = q 0) ∨ (mN q = 3 ∧ q 3 = q 1 ∧ ¬ q 2 = q 0) ∨ (mN q = 4 ∧ ¬ q 3 = q 1) := by
  unfold mN
  split
  · split
    · split
      · exact .inl ⟨rfl, by assumption, by assumption, by assumption⟩
      · exact .inr (.inl ⟨rfl, by assumption, by assumption, by assumption⟩)
    · exact .inr (.inr (.inl ⟨rfl, by assumption, by assumption⟩))
  · exact .inr (.inr (.inr ⟨rfl, by assumption⟩))
theorem qeq_min {q1 q2 : Nat → Int} : qeq q1 q2 = true ↔ mN q1 = mN q2 ∧ ∀ i, i < mN q1 → q1 i = q2 i := by
  unfold qeq
  rw [decide_eq_true_eq]
  constructor
  · rintro ⟨h0, h1, h2, h3⟩
    have e : mN q1 = mN q2 := by unfold mN; rw [h0, h1, h2, h3]
    refine ⟨e, fun i hi => ?_⟩
    have := (mN_le q1).2
    have hc : i = 0 ∨ i = 1 ∨ i = 2 ∨ i = 3 := by omega
    rcases hc with rfl | rfl | rfl | rfl
    · exact h0
    · exact h1
    · exact h2
    · exact h3
  · rintro ⟨e, h⟩
    have h0 : 0 < mN q1 → q1 0 = q2 0 := h 0
    have h1 : 1 < mN q1 → q1 1 = q2 1 := h 1
    have h2 : 2 < mN q1 → q1 2 = q2 2 := h 2
    have h3 : 3 < mN q1 → q1 3 = q2 3 := h 3
    clear h
    have c1 := mN_cases q1
    have c2 := mN_cases q2
    generalize mN q1 = k1 at *
    generalize mN q2 = k2 at *
    omega
abbrev MM (q1 q2 : Nat → Int) (g5 g6 : Nat) (w0 w : World) : Prop := M4 q1 g5 w0 w ∧ M4 q2 g6 w0 w
theorem MM.keep {q1 q2 : Nat → Int} {g5 g6 : Nat} {w0 w w' : World} (h : MM q1 q2 g5 g6 w0 w) (hb : Below w.heap.size w w') : MM q1 q2 g5 g6 w0 w' := ⟨h.1.keep hb, h.2.keep hb⟩
set_option maxRecDepth 100000 in
set_option maxHeartbeats 8000000 in
theorem cv_any (g n cap : Nat) (X : Nat → TY) (q1 q2 : Nat → Int) (mf : Bool) (w : World) (h : TR w g n X) (hv : VX q1 q2 mf n X) (hq1 : ∀ i, i < 4 → 0 ≤ q1 i ∧ q1 i < 8) (hq2 : ∀ i, i < 4 → 0 ≤ q2 i ∧ q2 i < 8) :
    Calls Tryd.prog 13 #[.slice (some ⟨g, 0, none⟩) n cap, .agg (a4 q1).toArray, .agg (a4 q2).toArray, .bool mf] w (TrueB w) := by
  have H := Lib.hid h
  have HV := Lib.hid hv
  have HQ := Lib.hid (And.intro hq1 hq2)
  have hE := fun W => eq_a4 q1 q2 W
  have hr1 : (w.alloc (.cells (a4 q1).toArray 22)).rangeAt w.heap.size 0 (a4 q1) := rg_new w (a4 q1).toArray 22
  have hb1 : Below w.heap.size w (w.alloc (.cells (a4 q1).toArray 22)) := (Below.refl _ _).alloc (Nat.le_refl _) _
  have hr2 : ((w.alloc (.cells (a4 q1).toArray 22)).alloc (.cells (a4 q2).toArray 22)).rangeAt (w.alloc (.cells (a4 q1).toArray 22)).heap.size 0 (a4 q2) := rg_new _ (a4 q2).toArray 22
  have hb2 : Below (w.alloc (.cells (a4 q1).toArray 22)).heap.size (w.alloc (.cells (a4 q1).toArray 22)) ((w.alloc (.cells (a4 q1).toArray 22)).alloc (.cells (a4 q2).toArray 22)) := (Below.refl _ _).alloc (Nat.le_refl _) _
  have hm1 := (M4.of (w0 := w) hr1 (by simp) hb1).keep hb2
  have hm2 := M4.of (w0 := w) hr2 (by simp; omega) (hb1.trans (hb2.mono (by simp)))
  obtain ⟨g5, h5⟩ : ∃ g, w.heap.size = g := ⟨_, rfl⟩
  obtain ⟨g6, h6⟩ : ∃ g, w.heap.size + 1 = g := ⟨_, rfl⟩
  rw [show (w.alloc (.cells (a4 q1).toArray 22)).heap.size = w.heap.size + 1 by simp, h6] at hm2
  rw [h5] at hm1
  have hm : MM q1 q2 g5 g6 w ((w.alloc (.cells (a4 q1).toArray 22)).alloc (.cells (a4 q2).toArray 22)) := ⟨hm1, hm2⟩
  clear hr1 hr2 hb1 hb2 hm1 hm2 h hv hq1 hq2
  obtain ⟨du, hu, hu2⟩ := tyTok
  have HU := Lib.hid hu
  clear hu
  unfold a4 at hm hE
  unfold a4
  have HM := Lib.hid hm
  clear hm
  obtain ⟨bq, hbq⟩ : ∃ b, qeq q1 q2 = b := ⟨_, rfl⟩
  rw [hbq] at hE
  have HBQ := Lib.hid hbq
  clear hbq
  go_enter Tryd.func13, Tryd.ntmps13
  go_upto_region 1 with fail
  have h65 : g5 + 1 = g6 := by rw [← h5]; exact h6
  try rw [h6]
  try rw [h5]
  try rw [h65]
  generalize World.alloc (World.alloc w _) _ = w1 at *
  obtain ⟨⟨a0, a1, a2, a3, -, -⟩, ⟨b0, b1, b2, b3, -, -⟩⟩ := HM.out
  go_wp2_with fail
  refine (mn_any q1 w1).mono ?_
  rintro e w2 ⟨rfl, hb⟩
  have HM2 := Lib.hid (HM.out.keep hb)
  clear hb HM a0 a1 a2 a3 b0 b1 b2 b3
  obtain ⟨⟨a0, a1, a2, a3, -, -⟩, ⟨b0, b1, b2, b3, -, -⟩⟩ := HM2.out
  obtain ⟨k1, hk1⟩ : ∃ k, mN q1 = k := ⟨_, rfl⟩
  have hk1b := mN_le q1
  rw [hk1] at hk1b ⊢
  have HK1 := Lib.hid hk1
  clear hk1
  have HT2 := Lib.hid (H.out.keep HM2.out.1.2.2.2.2.2)
  cases bq with
  | true =>
    have hx : n = k1 ∧ ∀ i, i < k1 → X (0 + i) = (q1 i, wsv mf k1 i) := by
      rcases HV.out with ⟨-, h1, h2⟩ | ⟨h1, -⟩
      · rw [HK1.out] at h1 h2; exact ⟨h1, fun i hi => by rw [Nat.zero_add]; exact h2 i hi⟩
      · rw [HBQ.out] at h1; cases h1
    obtain ⟨rfl, hx⟩ := hx
    have hc : Calls Tryd.prog 17 #[.slice (some ⟨g, 0, none⟩) n cap, .int .i64 0, .agg (a4 q1).toArray, .int .i64 (n : Int), .bool mf] w2 (TrueB w2) := cl_any g 0 n cap n X q1 mf w2 HT2.out (by omega) (by omega) hk1b.2 hx HQ.out.1
    have HC := Lib.hid hc
    clear hc hx
    go_wp2_with fail
    refine HC.out.mono ?_
    rintro e w3 ⟨rfl, hb⟩
    have HB := Lib.hid (HM2.out.1.2.2.2.2.2.trans (hb.mono HM2.out.1.2.2.2.2.1))
    clear hb
    go_wp2_with fail
    go_ret
    exact ⟨rfl, HB.out⟩
  | false =>
    go_wp2_with fail
    refine (mn_any q2 w2).mono ?_
    rintro e w3 ⟨rfl, hb⟩
    have HM3 := Lib.hid (HM2.out.keep hb)
    clear hb HM2 a0 a1 a2 a3 b0 b1 b2 b3 HT2
    obtain ⟨⟨a0, a1, a2, a3, -, -⟩, ⟨b0, b1, b2, b3, -, -⟩⟩ := HM3.out
    obtain ⟨k2, hk2⟩ : ∃ k, mN q2 = k := ⟨_, rfl⟩
    have hk2b := mN_le q2
    rw [hk2] at hk2b ⊢
    have hx : n = k1 + 1 + k2 ∧ (∀ i, i < k1 → X (0 + i) = (q1 i, wsv mf k1 i)) ∧ X k1 = (7, if mf then 0 else 3) ∧ ∀ i, i < k2 → X (k1 + 1 + i) = (q2 i, wsv mf k2 i) := by
      rcases HV.out with ⟨h1, -⟩ | ⟨-, h1, h2, h3, h4⟩
      · rw [HBQ.out] at h1; cases h1
      · rw [HK1.out] at h1 h2 h3 h4; rw [hk2] at h1 h4; exact ⟨h1, fun i hi => by rw [Nat.zero_add]; exact h2 i hi, h3, h4⟩
    obtain ⟨hn, hx1, hx2, hx3⟩ := hx
    have HT3 := H.out.keep HM3.out.1.2.2.2.2.2
    have hc : Calls Tryd.prog 17 #[.slice (some ⟨g, 0, none⟩) n cap, .int .i64 0, .agg (a4 q1).toArray, .int .i64 (k1 : Int), .bool mf] w3 (TrueB w3) := cl_any g 0 n cap k1 X q1 mf w3 HT3 (by omega) (by omega) hk1b.2 hx1 HQ.out.1
    have HC := Lib.hid hc
    have HX := Lib.hid (And.intro hn (And.intro hx2 (And.intro hx3 hk2b)))
    have hnb : ((n : Int) == (k1 : Int) + 1 + k2) = true := by rw [beq_iff_eq]; omega
    clear hc hx1 hx2 hx3 hk2 HT3 hn
    go_wp2_with fail
    refine HC.out.mono ?_
    rintro e w4 ⟨rfl, hb⟩
    have HM4 := Lib.hid (HM3.out.keep hb)
    clear hb HM3 a0 a1 a2 a3 b0 b1 b2 b3 HC hnb
    obtain ⟨⟨a0, a1, a2, a3, -, -⟩, ⟨b0, b1, b2, b3, -, -⟩⟩ := HM4.out
    have hrx := H.out.keep HM4.out.1.2.2.2.2.2 k1 (by have := HX.out.1; omega)
    rw [HX.out.2.1] at hrx
    obtain ⟨W, hW⟩ : ∃ W : Int, (if mf = true then (0 : Int) else 3) = W := ⟨_, rfl⟩
    rw [hW] at hrx
    have HRX := Lib.hid (show w4.rangeAt g (k1 * 7) [.pointer none, .string ⟨#[47]⟩, .int .i32 0, .int .u32 0, .int .u16 0, .int .u8 24, .int .u8 W] from hrx)
    have HW := Lib.hid hW
    have q0 : (0 : Int) ≤ k1 := by omega
    have q1' : (k1 : Int) < n := by have := HX.out.1; omega
    clear hrx hW
    go_upto_region 10 with (first | (refine wpList_load_mid rfl 39 _ rfl g (k1 * 7) rfl _ du HRX.out HU.out hu2 szTok ?_))
    have hbA : Below w4.heap.size w4 (w4.alloc (.cells (tyR (7, W)).toArray 39)) := (Below.refl _ _).alloc (Nat.le_refl _) _
    have hrA : (w4.alloc (.cells (tyR (7, W)).toArray 39)).rangeAt w4.heap.size 0 (tyR (7, W)) := rg_new w4 (tyR (7, W)).toArray 39
    obtain ⟨gt, hgt⟩ : ∃ q, w4.heap.size = q := ⟨_, rfl⟩
    rw [hgt] at hrA
    obtain ⟨wA, hwA⟩ : ∃ w', w4.alloc (.cells (tyR (7, W)).toArray 39) = w' := ⟨_, rfl⟩
    have hwA2 : w4.alloc (.cells #[.pointer none, .string ⟨#[47]⟩, .int .i32 0, .int .u32 0, .int .u16 0, .int .u8 24, .int .u8 W] 39) = wA := hwA
    rw [hwA] at hbA hrA
    rw [hwA2, hgt]
    have c1 : wA.cell? ⟨gt, 1, none⟩ = some (.string ⟨#[47]⟩) := hrA 1 _ rfl
    have c5 : wA.cell? ⟨gt, 5, none⟩ = some (.int .u8 24) := hrA 5 _ rfl
    have c6 : wA.cell? ⟨gt, 6, none⟩ = some (.int .u8 W) := hrA 6 _ rfl
    have HMA := Lib.hid (HM4.out.keep hbA)
    clear hrA hbA hwA hwA2 hgt HM4 HRX a0 a1 a2 a3 b0 b1 b2 b3 q1'
    obtain ⟨⟨a0, a1, a2, a3, -, -⟩, ⟨b0, b1, b2, b3, -, -⟩⟩ := HMA.out
    have HTA := H.out.keep HMA.out.1.2.2.2.2.2
    have hc : Calls Tryd.prog 17 #[.slice (some ⟨g, 0, none⟩) n cap, .int .i64 ((k1 : Int) + 1), .agg (a4 q2).toArray, .int .i64 (k2 : Int), .bool mf] wA (TrueB wA) := cl_any g (k1 + 1) n cap k2 X q2 mf wA HTA (by have := HX.out.1; omega) (by have := HX.out.1; have := HX.out.2.2.2; omega) HX.out.2.2.2.2 HX.out.2.2.1 HQ.out.2
    have HC := Lib.hid hc
    clear hc HTA
    cases mf
    · obtain rfl : W = 3 := by rw [← HW.out]; rfl
      clear HW
      go_wp2_with fail
      refine HC.out.mono ?_
      rintro e w5 ⟨rfl, hb⟩
      have HB := Lib.hid (HMA.out.1.2.2.2.2.2.trans (hb.mono HMA.out.1.2.2.2.2.1))
      clear hb
      go_wp2_with fail
      go_ret
      exact ⟨rfl, HB.out⟩
    · obtain rfl : W = 0 := by rw [← HW.out]; rfl
      clear HW
      go_wp2_with fail
      refine HC.out.mono ?_
      rintro e w5 ⟨rfl, hb⟩
      have HB := Lib.hid (HMA.out.1.2.2.2.2.2.trans (hb.mono HMA.out.1.2.2.2.2.1))
      clear hb
      go_wp2_with fail
      go_ret
      exact ⟨rfl, HB.out⟩
end Go.Proofs.YtmaljklijpoojaaDoor.Co
