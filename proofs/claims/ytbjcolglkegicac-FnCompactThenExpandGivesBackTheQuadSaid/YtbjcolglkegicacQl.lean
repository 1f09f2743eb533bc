/-
  The plain law: what is expanded equals what was compacted. The boxes of the law's arguments.
-/
import Derived.Test.YtbjcolglkegicacQw
namespace Go.Proofs.Ytbjcolglkegicac.Quad
open Go.ChangeShapes Go.WideShapes Go.ChangeAt Go.RowKit Rg
set_option linter.unusedVariables false
theorem cN_le (K P : Nat → Int) (T : Nat → ByteArray) : 1 ≤ cN K P T ∧ cN K P T ≤ 4 := by
  unfold cN
  split
  · split
    · split <;> omega
    · omega
  · omega
theorem eqT_iff {t1 t2 : ByteArray} {p1 p2 k1 k2 : Int} : eqT t1 p1 k1 t2 p2 k2 = true ↔ (k1 = k2 ∧ t1.toList = t2.toList ∧ p1 = p2) := by
  unfold eqT; exact decide_eq_true_iff
theorem eq_ix (K P : Nat → Int) (T : Nat → ByteArray) (j : Nat) (hj : j < 4) : eqT (T (ix (cN K P T) j)) (P (ix (cN K P T) j)) (K (ix (cN K P T) j)) (T j) (P j) (K j) = true := by
  rw [eqT_iff]
  have hj4 : j = 0 ∨ j = 1 ∨ j = 2 ∨ j = 3 := by omega
  unfold cN
  split
  · rename_i h1
    rw [eqT_iff] at h1
    obtain ⟨a1, b1, c1⟩ := h1
    split
    · rename_i h2
      rw [eqT_iff] at h2
      obtain ⟨a2, b2, c2⟩ := h2
      split
      · rename_i h3
        rw [eqT_iff] at h3
        obtain ⟨a3, b3, c3⟩ := h3
        rcases hj4 with rfl | rfl | rfl | rfl <;> simp [ix, *]
      · rcases hj4 with rfl | rfl | rfl | rfl <;> simp [ix, *]
    · rcases hj4 with rfl | rfl | rfl | rfl <;> simp [ix, *]
  · rcases hj4 with rfl | rfl | rfl | rfl <;> simp [ix, *]
/-- the four boxes -/
def BX (h : Nat) (K P S : Nat → Int) (T : Nat → ByteArray) (w0 w : World) : Prop :=
  w.rangeAt h 0 [.int .u8 (K 0), .int .u8 (K 1), .int .u8 (K 2), .int .u8 (K 3)] ∧ w.rangeAt (h + 1) 0 [.string (T 0), .string (T 1), .string (T 2), .string (T 3)] ∧
  w.rangeAt (h + 2) 0 [.int .u32 (P 0), .int .u32 (P 1), .int .u32 (P 2), .int .u32 (P 3)] ∧ w.rangeAt (h + 3) 0 [.int .u8 (S 0), .int .u8 (S 1), .int .u8 (S 2), .int .u8 (S 3)] ∧ Below h w0 w ∧ h ≤ w.heap.size
section
variable {h : Nat} {K P S : Nat → Int} {T : Nat → ByteArray} {w0 w w' : World}
theorem BX.keep (H : BX h K P S T w0 w) (hb : Below w.heap.size w w') : BX h K P S T w0 w' := by
  obtain ⟨a, b, c, d, e, f⟩ := H
  exact ⟨rg_keep hb a, rg_keep hb b, rg_keep hb c, rg_keep hb d, e.trans (hb.mono f), Nat.le_trans f hb.size⟩
theorem BX.at_ (H : BX h K P S T w0 w) : (w.cell? ⟨h, 0, none⟩ = some (.int .u8 (K 0)) ∧ w.cell? ⟨h, 1, none⟩ = some (.int .u8 (K 1)) ∧ w.cell? ⟨h, 2, none⟩ = some (.int .u8 (K 2)) ∧ w.cell? ⟨h, 3, none⟩ = some (.int .u8 (K 3))) ∧
    (w.cell? ⟨h + 1, 0, none⟩ = some (.string (T 0)) ∧ w.cell? ⟨h + 1, 1, none⟩ = some (.string (T 1)) ∧ w.cell? ⟨h + 1, 2, none⟩ = some (.string (T 2)) ∧ w.cell? ⟨h + 1, 3, none⟩ = some (.string (T 3))) ∧
    (w.cell? ⟨h + 2, 0, none⟩ = some (.int .u32 (P 0)) ∧ w.cell? ⟨h + 2, 1, none⟩ = some (.int .u32 (P 1)) ∧ w.cell? ⟨h + 2, 2, none⟩ = some (.int .u32 (P 2)) ∧ w.cell? ⟨h + 2, 3, none⟩ = some (.int .u32 (P 3))) ∧
    (w.cell? ⟨h + 3, 0, none⟩ = some (.int .u8 (S 0)) ∧ w.cell? ⟨h + 3, 1, none⟩ = some (.int .u8 (S 1)) ∧ w.cell? ⟨h + 3, 2, none⟩ = some (.int .u8 (S 2)) ∧ w.cell? ⟨h + 3, 3, none⟩ = some (.int .u8 (S 3))) := by
  obtain ⟨a, b, c, d, _⟩ := H
  exact ⟨⟨rg_cell a 0 rfl, rg_cell a 1 rfl, rg_cell a 2 rfl, rg_cell a 3 rfl⟩, ⟨rg_cell b 0 rfl, rg_cell b 1 rfl, rg_cell b 2 rfl, rg_cell b 3 rfl⟩, ⟨rg_cell c 0 rfl, rg_cell c 1 rfl, rg_cell c 2 rfl, rg_cell c 3 rfl⟩, ⟨rg_cell d 0 rfl, rg_cell d 1 rfl, rg_cell d 2 rfl, rg_cell d 3 rfl⟩⟩
end
/-- a quad of tokens in a block -/
def QS (g : Nat) (K P S : Nat → Int) (T : Nat → ByteArray) (q : Nat → Nat) (w : World) : Prop :=
  ∀ j, j < 4 → w.cell? ⟨g, j * 7, none⟩ = some (.pointer none) ∧ w.cell? ⟨g, j * 7 + 1, none⟩ = some (.string (T (q j))) ∧ w.cell? ⟨g, j * 7 + 2, none⟩ = some (.int .i32 (Li (q j))) ∧ w.cell? ⟨g, j * 7 + 3, none⟩ = some (.int .u32 (P (q j))) ∧ w.cell? ⟨g, j * 7 + 4, none⟩ = some (.int .u16 0) ∧ w.cell? ⟨g, j * 7 + 5, none⟩ = some (.int .u8 (K (q j))) ∧ w.cell? ⟨g, j * 7 + 6, none⟩ = some (.int .u8 (S (q j)))
theorem QS.of {g : Nat} {K P S : Nat → Int} {T : Nat → ByteArray} {q : Nat → Nat} {w : World} (h : w.rangeAt g 0 (tokc K P Li S T (q 0) ++ (tokc K P Li S T (q 1) ++ (tokc K P Li S T (q 2) ++ tokc K P Li S T (q 3))))) : QS g K P S T q w := by
  intro j hj
  have hr : ∀ i v, (tokc K P Li S T (q 0) ++ (tokc K P Li S T (q 1) ++ (tokc K P Li S T (q 2) ++ tokc K P Li S T (q 3))))[i]? = some v → w.cell? ⟨g, i, none⟩ = some v := fun i v hv => by
    have := h i v hv
    rwa [Nat.zero_add] at this
  have hj4 : j = 0 ∨ j = 1 ∨ j = 2 ∨ j = 3 := by omega
  rcases hj4 with rfl | rfl | rfl | rfl
  all_goals exact ⟨hr _ _ rfl, hr _ _ rfl, hr _ _ rfl, hr _ _ rfl, hr _ _ rfl, hr _ _ rfl, hr _ _ rfl⟩
theorem QS.keep {g : Nat} {K P S : Nat → Int} {T : Nat → ByteArray} {q : Nat → Nat} {w w' : World} (h : QS g K P S T q w) (hb : Below w.heap.size w w') : QS g K P S T q w' := by
  intro j hj
  obtain ⟨a, b, c, d, e, f, i⟩ := h j hj
  exact ⟨later hb a, later hb b, later hb c, later hb d, later hb e, later hb f, later hb i⟩
theorem QS.set {g b : Nat} {K P S : Nat → Int} {T : Nat → ByteArray} {q : Nat → Nat} {w : World} (h : QS g K P S T q w) (hne : g ≠ b) (o : Nat) (vs : List Value) : QS g K P S T q (w.setCells b o vs) := by
  intro j hj
  have hr : ∀ i v, w.cell? ⟨g, i, none⟩ = some v → (w.setCells b o vs).cell? ⟨g, i, none⟩ = some v := fun i v hv => by
    rw [World.cell?_setCells_out _ _ _ _ _ (fun e => absurd e hne)]; exact hv
  obtain ⟨a, b, c, d, e, f, i⟩ := h j hj
  exact ⟨hr _ _ a, hr _ _ b, hr _ _ c, hr _ _ d, hr _ _ e, hr _ _ f, hr _ _ i⟩
theorem not_okT {k : Int} {t A : ByteArray} (h : ¬ okT k t A) : numB k = false ∧ ((k == 29) = false ∨ ((k == 29) = true ∧ A.toList.isEmpty = true) ∨ ((k == 29) = true ∧ A.toList.isEmpty = false ∧ (t.toList == A.toList) = false)) := by
  unfold okT at h
  cases hn : numB k
  · refine ⟨rfl, ?_⟩
    by_cases h1 : k = 29
    · right
      cases hA : A.toList.isEmpty
      · right
        refine ⟨by simpa using h1, rfl, ?_⟩
        simp only [beq_eq_false_iff_ne]
        intro e
        exact h (.inr ⟨hn, h1, hA, e⟩)
      · exact .inl ⟨by simpa using h1, rfl⟩
    · exact .inl (by simpa using h1)
  · exact absurd (.inl hn) h
end Go.Proofs.Ytbjcolglkegicac.Quad
