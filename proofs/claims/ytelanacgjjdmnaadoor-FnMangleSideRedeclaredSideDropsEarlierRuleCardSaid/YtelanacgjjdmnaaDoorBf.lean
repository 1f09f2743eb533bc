/-
  FnMangleSideRedeclaredSideDropsEarlierRule: the walk.
-/
import Derived.Test.YtelanacgjjdmnaaDoorBe
import Derived.Lib.Builder
namespace Go.Proofs.YtelanacgjjdmnaaDoor.Bx
open Go.ChangeShapes Go.WideShapes Go.ChangeAt Go.RowKit Rg
set_option linter.unusedVariables false
set_option linter.unusedSimpArgs false
/-- a declaration in block d, its value in block v -/
def DC (d v : Nat) (c l : Int) (kt : ByteArray) (imp : Bool) (w : World) : Prop :=
  w.rangeAt d 0 [.string kt, .slice (some ⟨v, 0, none⟩) 1 1, .int .i32 0, .int .i32 0, .int .u16 0, .bool imp] ∧ w.rangeAt v 0 (tkR c l)
theorem DC.keep {d v : Nat} {c l : Int} {kt : ByteArray} {imp : Bool} {w w' : World} (h : DC d v c l kt imp w) (hb : Below w.heap.size w w') : DC d v c l kt imp w' := ⟨rg_keep hb h.1, rg_keep hb h.2⟩
theorem rg_grown {b o r : Nat} {cs : List Value} {w w' : World} (h : w.rangeAt b o cs) (hg : w.grownBy w' (some r)) (hne : b ≠ r) : w'.rangeAt b o cs := fun j u hu => hg.cell (h j u hu) (fun e => hne (by injection e))
theorem DC.grown {d v r : Nat} {c l : Int} {kt : ByteArray} {imp : Bool} {w w' : World} (h : DC d v c l kt imp w) (hg : w.grownBy w' (some r)) (h1 : d ≠ r) (h2 : v ≠ r) : DC d v c l kt imp w' := ⟨rg_grown h.1 hg h1, rg_grown h.2 hg h2⟩
theorem DC.cells {d v : Nat} {c l : Int} {kt : ByteArray} {imp : Bool} {w : World} (h : DC d v c l kt imp w) : w.cell? ⟨d, 1, none⟩ = some (.slice (some ⟨v, 0, none⟩) 1 1) ∧ w.cell? ⟨d, 2, none⟩ = some (.int .i32 0) ∧ w.cell? ⟨d, 3, none⟩ = some (.int .i32 0) ∧ w.cell? ⟨d, 5, none⟩ = some (.bool imp) :=
  ⟨h.1 1 _ rfl, h.1 2 _ rfl, h.1 3 _ rfl, h.1 5 _ rfl⟩
theorem DC.lt {d v : Nat} {c l : Int} {kt : ByteArray} {imp : Bool} {w : World} (h : DC d v c l kt imp w) : d < w.heap.size ∧ v < w.heap.size := ⟨rg_lt h.1 (by simp), rg_lt h.2 (by simp [tkR])⟩
/-- a rule's value -/
abbrev RV := Value × Int
def rvR (x : RV) : List Value := [x.1, .int .i32 x.2]
/-- the two rules in block g -/
def RL (g : Nat) (x y : RV) (w : World) : Prop := w.rangeAt g 0 (rvR x) ∧ w.rangeAt g 2 (rvR y) ∧ w.there g 0 4
section
variable {g r : Nat} {x y : RV} {w w' : World}
theorem RL.keep (h : RL g x y w) (hb : Below w.heap.size w w') : RL g x y w' := ⟨rg_keep hb h.1, rg_keep hb h.2.1, th_keep hb h.2.2⟩
theorem RL.lt (h : RL g x y w) : g < w.heap.size := th_lt h.2.2 (by omega)
theorem RL.grown (h : RL g x y w) (hg : w.grownBy w' (some r)) (h1 : g ≠ r) : RL g x y w' := by
  refine ⟨rg_grown h.1 hg h1, rg_grown h.2.1 hg h1, fun j hj => ?_⟩
  have e := hg.block g h.lt (fun e => h1 (by injection e))
  have := h.2.2 j hj
  rw [World.cell?_of_block (a := ⟨g, 0 + j, none⟩) e, World.frozen?_of_block (a := ⟨g, 0 + j, none⟩) e]
  exact this
theorem RL.put0 (h : RL g x y w) (z : RV) : RL g z y (w.setCells g 0 (rvR z)) :=
  ⟨World.rangeAt_setCells_same _ _ _ _ (th_sub h.2.2 (by omega) (by show 0 + 2 ≤ 0 + 4; omega)), World.rangeAt_setCells_apart h.2.1 _ _ _ (.inr (.inr (by show 0 + 2 ≤ 2; omega))), World.there_setCells h.2.2 _ _ _⟩
theorem RL.put1 (h : RL g x y w) (z : RV) : RL g x z (w.setCells g 2 (rvR z)) :=
  ⟨World.rangeAt_setCells_apart h.1 _ _ _ (.inr (.inl (by show 0 + 2 ≤ 2; omega))), World.rangeAt_setCells_same _ _ _ _ (th_sub h.2.2 (by omega) (by show 2 + 2 ≤ 0 + 4; omega)), World.there_setCells h.2.2 _ _ _⟩
theorem DC.sets {d v : Nat} {c l : Int} {kt : ByteArray} {imp : Bool} (h : DC d v c l kt imp w) (h1 : d ≠ g) (h2 : v ≠ g) (o : Nat) (vs : List Value) : DC d v c l kt imp (w.setCells g o vs) :=
  ⟨World.rangeAt_setCells_apart h.1 _ _ _ (.inl h1), World.rangeAt_setCells_apart h.2 _ _ _ (.inl h2)⟩
end
/-- which side stands behind the first declaration -/
def s2 (c l : Int) (mg : Bool) (sd : Nat) : Nat → SD := if c ≠ 3 ∨ mg = true then up (fun _ => z0) sd ⟨cT c, l, cK c, cS c, 0, true⟩ else fun _ => z0
theorem ms_first {c l : Int} {r sd : Nat} {kt : ByteArray} {aa di : Bool} {key : Int} {b : Nat} {w w' : World} (h : MsP c l 1 r sd kt aa di key (fun _ => z0) b w w') : BB kt aa di key (s2 c l aa sd) b w' ∧ w.grownBy w' (some b) := by
  unfold MsP at h
  unfold s2
  by_cases hc : c ≠ 3 ∨ aa = true
  · rw [if_pos hc] at h ⊢
    obtain ⟨h1, wA, g1, g2⟩ := h
    rw [if_neg (fun e => e.1 rfl)] at g2
    exact ⟨h1, g1.trans g2⟩
  · rw [if_neg hc] at h ⊢
    exact h
theorem cK_ne {c : Int} : cK c ≠ 0 := by
  unfold cK
  repeat' split
  all_goals decide
/-- the second declaration drops the first rule -/
def dr (ca cb : Int) (mg : Bool) (sd0 sd1 : Nat) (i0 i1 : Bool) : Prop := sd0 = sd1 ∧ i0 = i1 ∧ (ca ≠ 3 ∨ mg = true) ∧ (cb ≠ 3 ∨ mg = true) ∧ ca ≠ 4 ∧ cb ≠ 4
theorem cS_zero {c : Int} : cS c = 0 ↔ c ≠ 4 := by unfold cS; split <;> simp_all
theorem s3_k {ca l : Int} {mg : Bool} {sd0 sd1 : Nat} {i0 i1 : Bool} {σ : Nat → SD} (hσ : σ = if i0 = i1 then s2 ca l mg sd0 else fun _ => z0) : ((σ sd1).k ≠ 0 ↔ sd0 = sd1 ∧ i0 = i1 ∧ (ca ≠ 3 ∨ mg = true)) ∧ ((σ sd1).k ≠ 0 → (σ sd1).s = true ∧ (σ sd1).i = 0 ∧ (σ sd1).st = cS ca) := by
  by_cases h1 : i0 = i1
  · rw [if_pos h1] at hσ
    unfold s2 at hσ
    by_cases h2 : ca ≠ 3 ∨ mg = true
    · rw [if_pos h2] at hσ
      by_cases h3 : sd1 = sd0
      · rw [hσ]; unfold up; rw [if_pos h3]; exact ⟨⟨fun _ => ⟨h3.symm, h1, h2⟩, fun _ => cK_ne⟩, fun _ => ⟨rfl, rfl, rfl⟩⟩
      · rw [hσ]; unfold up; rw [if_neg h3]; exact ⟨⟨fun h => absurd rfl h, fun h => absurd h.1.symm h3⟩, fun h => absurd rfl h⟩
    · rw [if_neg h2] at hσ; rw [hσ]; exact ⟨⟨fun h => absurd rfl h, fun h => absurd h.2.2 h2⟩, fun h => absurd rfl h⟩
  · rw [if_neg h1] at hσ; rw [hσ]; exact ⟨⟨fun h => absurd rfl h, fun h => absurd h.2.1 h1⟩, fun h => absurd rfl h⟩
theorem s3_z {ca l : Int} {mg : Bool} {sd0 sd1 : Nat} {i0 i1 : Bool} {σ : Nat → SD} (hσ : σ = if i0 = i1 then s2 ca l mg sd0 else fun _ => z0) : ∃ i, i < 4 ∧ i ≠ sd1 ∧ (σ i).k = 0 := by
  have hx : ∃ i, i < 4 ∧ i ≠ sd1 ∧ i ≠ sd0 := by
    by_cases a0 : (0 : Nat) ≠ sd1 ∧ 0 ≠ sd0
    · exact ⟨0, by omega, a0.1, a0.2⟩
    · by_cases a1 : (1 : Nat) ≠ sd1 ∧ 1 ≠ sd0
      · exact ⟨1, by omega, a1.1, a1.2⟩
      · exact ⟨2, by omega, by omega, by omega⟩
  obtain ⟨i, h1, h2, h3⟩ := hx
  refine ⟨i, h1, h2, ?_⟩
  rw [hσ]
  split
  · unfold s2
    split
    · unfold up; rw [if_neg h3]; rfl
    · rfl
  · rfl
/-- what stands behind the second declaration -/
theorem ms_second {ca cb l0 l1 : Int} {r sd0 sd1 : Nat} {kt : ByteArray} {mg i0 i1 : Bool} {key : Int} {b : Nat} {σ : Nat → SD} {x y : RV} {w w' : World} (hσ : σ = if i0 = i1 then s2 ca l0 mg sd0 else fun _ => z0) (h : MsP cb l1 2 r sd1 kt mg i1 key σ b w w') (hR : RL r x y w) (hrb : r ≠ b) :
    (dr ca cb mg sd0 sd1 i0 i1 → RL r (.nilIface, 0) y w') ∧ (¬ dr ca cb mg sd0 sd1 i0 i1 → RL r x y w') ∧ (∀ d v c l imp, d ≠ b → v ≠ b → d ≠ r → v ≠ r → DC d v c l kt imp w → DC d v c l kt imp w') ∧ (∀ B, B ≤ b → B ≤ r → B ≤ w.heap.size → Below B w w') := by
  obtain ⟨k1, k2⟩ := s3_k (sd1 := sd1) hσ
  unfold MsP at h
  have bel : ∀ {u u' : World}, u.grownBy u' (some b) → ∀ B, B ≤ b → B ≤ u.heap.size → Below B u u' := fun hg B h1 h2 => ⟨hg.os, hg.tape, hg.output, hg.size, fun k hk => hg.block k (by omega) (fun e => by injection e; omega)⟩
  by_cases hc : cb ≠ 3 ∨ mg = true
  · rw [if_pos hc] at h
    obtain ⟨-, wA, g1, g2⟩ := h
    by_cases hd : (σ sd1).k ≠ 0 ∧ (σ sd1).st = 0 ∧ cS cb = 0
    · rw [if_pos hd] at g2
      obtain ⟨e1, e2, e3⟩ := k2 hd.1
      rw [e2] at g2
      have hdr : dr ca cb mg sd0 sd1 i0 i1 := by
        obtain ⟨a1, a2, a3⟩ := k1.1 hd.1
        exact ⟨a1, a2, a3, hc, cS_zero.1 (by rw [← e3]; exact hd.2.1), cS_zero.1 hd.2.2⟩
      refine ⟨fun _ => ((hR.grown g1 hrb).put0 (.nilIface, 0)).grown g2 hrb, fun hn => absurd hdr hn, fun d v c l imp a1 a2 a3 a4 hD => ((hD.grown g1 a1 a2).sets a3 a4 _ _).grown g2 a1 a2, fun B b1 b2 b3 => ?_⟩
      have hs1 := Nat.le_trans b3 g1.size
      exact (below_setCells b2 _ _ (bel g1 B b1 b3)).trans (bel g2 B b1 (by rw [size_setCells]; exact hs1))
    · rw [if_neg hd] at g2
      have g3 := g1.trans g2
      refine ⟨fun hdr => absurd ?_ hd, fun _ => hR.grown g3 hrb, fun d v c l imp a1 a2 _ _ hD => hD.grown g3 a1 a2, fun B b1 b2 b3 => bel g3 B b1 b3⟩
      have hk := k1.2 ⟨hdr.1, hdr.2.1, hdr.2.2.1⟩
      exact ⟨hk, by rw [(k2 hk).2.2]; exact cS_zero.2 hdr.2.2.2.2.1, cS_zero.2 hdr.2.2.2.2.2⟩
  · rw [if_neg hc] at h
    exact ⟨fun hdr => absurd hdr.2.2.2.1 hc, fun _ => hR.grown h.2 hrb, fun d v c l imp a1 a2 _ _ hD => hD.grown h.2 a1 a2, fun B b1 b2 b3 => bel h.2 B b1 b3⟩
end Go.Proofs.YtelanacgjjdmnaaDoor.Bx
