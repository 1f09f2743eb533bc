/-
  Boxes: the float variables that a call keeps in memory of its own, each in a block by itself.
-/
import Derived.Test.YtafeeebgleecfaaFx
namespace Go.Proofs.Ytafeeebgleecfaa.Mat
open Go.ChangeShapes Go.WideShapes Go.ChangeAt Go.RowKit
open FL
set_option linter.unusedVariables false
/-- each box of the list holds its number; below 'base' nothing has turned -/
def Bx (base : Nat) (w0 : World) : List (Nat × Nat) → World → Prop
  | [], w => base ≤ w.heap.size ∧ Below base w0 w
  | (g, x) :: L, w => w.cell? ⟨g, 0, none⟩ = some (.float .f64 x) ∧ w.frozen? ⟨g, 0, none⟩ = false ∧ Bx base w0 L w
/-- the boxes are apart, and none is an elder block -/
def Apart (base : Nat) : List (Nat × Nat) → Prop
  | [] => True
  | (g, _) :: L => base ≤ g ∧ (∀ p ∈ L, p.1 ≠ g) ∧ Apart base L
theorem Bx.start (w : World) : Bx w.heap.size w [] w := ⟨Nat.le_refl _, Below.refl _ _⟩
theorem Bx.below {base : Nat} {w0 w : World} : ∀ {L : List (Nat × Nat)}, Bx base w0 L w → base ≤ w.heap.size ∧ Below base w0 w
  | [], h => h
  | (_, _) :: _, h => Bx.below h.2.2
theorem Bx.keep {base : Nat} {w0 w1 w2 : World} (hb : Below w1.heap.size w1 w2) : ∀ {L : List (Nat × Nat)}, Bx base w0 L w1 → Bx base w0 L w2
  | [], h => ⟨Nat.le_trans h.1 hb.size, h.2.trans (hb.mono h.1)⟩
  | (_, _) :: _, h => ⟨later hb h.1, by rw [hb.frozen (World.block_lt_of_cell? w1 _ h.1)]; exact h.2.1, Bx.keep hb h.2.2⟩
theorem Bx.drew {base : Nat} {w0 w : World} : ∀ {L : List (Nat × Nat)}, Bx base w0 L w → Bx base w0 L w.drew
  | [], h => ⟨h.1, h.2.drew⟩
  | (_, _) :: _, h => ⟨h.1, h.2.1, Bx.drew h.2.2⟩
theorem Bx.lt {base : Nat} {w0 w : World} : ∀ {L : List (Nat × Nat)}, Bx base w0 L w → ∀ p ∈ L, p.1 < w.heap.size
  | [], _ => by simp
  | (g, x) :: L, h => by
    intro p hp
    rcases List.mem_cons.1 hp with rfl | hp
    · exact World.block_lt_of_cell? w _ h.1
    · exact Bx.lt h.2.2 p hp
theorem Bx.alloc {base : Nat} {w0 w : World} {L : List (Nat × Nat)} (h : Bx base w0 L w) (x : Nat) (T : TypeId) : Bx base w0 ((w.heap.size, x) :: L) (w.alloc (.cells #[.float .f64 x] T)) := by
  refine ⟨by simp [go_sem], by simp [go_sem], Bx.keep ((Below.refl _ _).alloc (Nat.le_refl _) _) h⟩
theorem Apart.alloc {base : Nat} {w0 w : World} {L : List (Nat × Nat)} (ha : Apart base L) (h : Bx base w0 L w) (x : Nat) : Apart base ((w.heap.size, x) :: L) :=
  ⟨h.below.1, fun p hp => Nat.ne_of_lt (h.lt p hp), ha⟩
theorem Bx.cell {base : Nat} {w0 w : World} : ∀ {L : List (Nat × Nat)}, Bx base w0 L w → ∀ (i : Nat) (hi : i < L.length), w.cell? ⟨L[i].1, 0, none⟩ = some (.float .f64 L[i].2) ∧ w.frozen? ⟨L[i].1, 0, none⟩ = false
  | (_, _) :: _, h, 0, _ => ⟨h.1, h.2.1⟩
  | (_, _) :: _, h, i + 1, hi => Bx.cell h.2.2 i (by simpa using hi)
theorem Bx.far {base : Nat} {w0 w : World} {g : Nat} {v : Value} (hg : base ≤ g) : ∀ {L : List (Nat × Nat)}, (∀ p ∈ L, p.1 ≠ g) → Bx base w0 L w → Bx base w0 L (w.setCell ⟨g, 0, none⟩ v)
  | [], _, h => ⟨by simpa [World.setCell] using h.1, h.2.setCell (p := ⟨g, 0, none⟩) hg _⟩
  | (k, x) :: L, hn, h => ⟨set_far (fun e => hn (k, x) (by simp) e.symm) h.1, by rw [World.frozen?_setCell]; exact h.2.1, Bx.far hg (fun p hp => hn p (by simp [hp])) h.2.2⟩
theorem Bx.set {base : Nat} {w0 w : World} (y : Nat) : ∀ {L : List (Nat × Nat)}, Apart base L → Bx base w0 L w → ∀ (i : Nat) (hi : i < L.length), Bx base w0 (L.set i (L[i].1, y)) (w.setCell ⟨L[i].1, 0, none⟩ (.float .f64 y))
  | (g, x) :: L, ha, h, 0, _ => ⟨World.cell?_setCell_same' w _ _ (by show (w.cell? ⟨g, 0, none⟩).isSome = true; rw [h.1]; rfl), by rw [World.frozen?_setCell]; exact h.2.1, Bx.far ha.1 ha.2.1 h.2.2⟩
  | (g, x) :: L, ha, h, i + 1, hi => by
    have hi' : i < L.length := by simpa using hi
    have hm : L[i] ∈ L := List.getElem_mem hi'
    refine ⟨set_far (fun e => ha.2.1 _ hm e) h.1, by rw [World.frozen?_setCell]; exact h.2.1, ?_⟩
    exact Bx.set y ha.2.2 h.2.2 i hi'
theorem Apart.set {base : Nat} (y : Nat) : ∀ {L : List (Nat × Nat)}, Apart base L → ∀ (i : Nat) (hi : i < L.length), Apart base (L.set i (L[i].1, y))
  | (g, x) :: L, ha, 0, _ => ha
  | (g, x) :: L, ha, i + 1, hi => by
    have hi' : i < L.length := by simpa using hi
    refine ⟨ha.1, ?_, Apart.set y ha.2.2 i hi'⟩
    intro p hp
    rcases List.mem_or_eq_of_mem_set hp with h | h
    · exact ha.2.1 p h
    · rw [h]; exact ha.2.1 L[i] (List.getElem_mem hi')
theorem Apart.ne {base : Nat} : ∀ {L : List (Nat × Nat)}, Apart base L → ∀ (i j : Nat) (hi : i < L.length) (hj : j < L.length), i ≠ j → L[i].1 ≠ L[j].1
  | (g, x) :: L, ha, 0, 0, _, _, h => absurd rfl h
  | (g, x) :: L, ha, 0, j + 1, _, hj, _ => fun e => ha.2.1 (L[j]'(by simpa using hj)) (List.getElem_mem _) e.symm
  | (g, x) :: L, ha, i + 1, 0, hi, _, _ => fun e => ha.2.1 (L[i]'(by simpa using hi)) (List.getElem_mem _) e
  | (g, x) :: L, ha, i + 1, j + 1, hi, hj, h => Apart.ne ha.2.2 i j (by simpa using hi) (by simpa using hj) (by omega)
theorem Apart.base {base : Nat} : ∀ {L : List (Nat × Nat)}, Apart base L → ∀ (i : Nat) (hi : i < L.length), base ≤ L[i].1
  | (g, x) :: L, ha, 0, _ => ha.1
  | (g, x) :: L, ha, i + 1, hi => Apart.base ha.2.2 i (by simpa using hi)
theorem Bx.cellA {base : Nat} {w0 w : World} {L : List (Nat × Nat)} (h : Bx base w0 L w) (i : Nat) (hi : i < L.length) (o : Obj) : (w.alloc o).cell? ⟨L[i].1, 0, none⟩ = some (.float .f64 L[i].2) :=
  ((Bx.keep ((Below.refl _ _).alloc (Nat.le_refl _) o) h).cell i hi).1
theorem Bx.cellAA {base : Nat} {w0 w : World} {L : List (Nat × Nat)} (h : Bx base w0 L w) (i : Nat) (hi : i < L.length) (o o' : Obj) : ((w.alloc o).alloc o').cell? ⟨L[i].1, 0, none⟩ = some (.float .f64 L[i].2) :=
  Bx.cellA (Bx.keep ((Below.refl _ _).alloc (Nat.le_refl _) o) h) i hi o'
theorem Bx.cellAAA {base : Nat} {w0 w : World} {L : List (Nat × Nat)} (h : Bx base w0 L w) (i : Nat) (hi : i < L.length) (o o' o'' : Obj) : (((w.alloc o).alloc o').alloc o'').cell? ⟨L[i].1, 0, none⟩ = some (.float .f64 L[i].2) :=
  Bx.cellAA (Bx.keep ((Below.refl _ _).alloc (Nat.le_refl _) o) h) i hi o' o''
theorem Bx.cellS {base : Nat} {w0 w : World} {L : List (Nat × Nat)} (ha : Apart base L) (h : Bx base w0 L w) (i j : Nat) (hi : i < L.length) (hj : j < L.length) (hne : i ≠ j) (v : Value) : (w.setCell ⟨L[j].1, 0, none⟩ v).cell? ⟨L[i].1, 0, none⟩ = some (.float .f64 L[i].2) :=
  set_far (ha.ne j i hj hi (fun e => hne e.symm)) (h.cell i hi).1
/-- boxes that are written in a region whose order is open -/
def Bt (base : Nat) (w0 : World) : List Nat → World → Prop
  | [], w => base ≤ w.heap.size ∧ Below base w0 w
  | t :: T, w => (w.cell? ⟨t, 0, none⟩).isSome = true ∧ w.frozen? ⟨t, 0, none⟩ = false ∧ Bt base w0 T w
/-- boxes that are read, and boxes that are written, in a region whose order is open -/
def Bs (base : Nat) (w0 : World) (T : List Nat) : List (Nat × Nat) → World → Prop
  | [], w => Bt base w0 T w
  | (g, x) :: L, w => w.cell? ⟨g, 0, none⟩ = some (.float .f64 x) ∧ w.frozen? ⟨g, 0, none⟩ = false ∧ Bs base w0 T L w
theorem Bt.keep {base : Nat} {w0 w1 w2 : World} (hb : Below w1.heap.size w1 w2) : ∀ {T : List Nat}, Bt base w0 T w1 → Bt base w0 T w2
  | [], h => ⟨Nat.le_trans h.1 hb.size, h.2.trans (hb.mono h.1)⟩
  | _ :: _, h => ⟨later_some hb h.1, later_frozen hb h.1 h.2.1, Bt.keep hb h.2.2⟩
theorem Bs.keep {base : Nat} {w0 w1 w2 : World} {T : List Nat} (hb : Below w1.heap.size w1 w2) : ∀ {L : List (Nat × Nat)}, Bs base w0 T L w1 → Bs base w0 T L w2
  | [], h => Bt.keep hb h
  | (_, _) :: _, h => ⟨later hb h.1, by rw [hb.frozen (World.block_lt_of_cell? w1 _ h.1)]; exact h.2.1, Bs.keep hb h.2.2⟩
theorem Bt.drew {base : Nat} {w0 w : World} : ∀ {T : List Nat}, Bt base w0 T w → Bt base w0 T w.drew
  | [], h => ⟨h.1, h.2.drew⟩
  | _ :: _, h => ⟨h.1, h.2.1, Bt.drew h.2.2⟩
theorem Bs.drew {base : Nat} {w0 w : World} {T : List Nat} : ∀ {L : List (Nat × Nat)}, Bs base w0 T L w → Bs base w0 T L w.drew
  | [], h => Bt.drew h
  | (_, _) :: _, h => ⟨h.1, h.2.1, Bs.drew h.2.2⟩
theorem Bt.far {base : Nat} {w0 w : World} {g : Nat} {v : Value} (hg : base ≤ g) : ∀ {T : List Nat}, Bt base w0 T w → Bt base w0 T (w.setCell ⟨g, 0, none⟩ v)
  | [], h => ⟨by simpa [World.setCell] using h.1, h.2.setCell (p := ⟨g, 0, none⟩) hg _⟩
  | t :: T, h => ⟨set_some h.1, by rw [World.frozen?_setCell]; exact h.2.1, Bt.far hg h.2.2⟩
theorem Bs.far {base : Nat} {w0 w : World} {g : Nat} {v : Value} {T : List Nat} (hg : base ≤ g) : ∀ {L : List (Nat × Nat)}, (∀ p ∈ L, p.1 ≠ g) → Bs base w0 T L w → Bs base w0 T L (w.setCell ⟨g, 0, none⟩ v)
  | [], _, h => Bt.far hg h
  | (k, x) :: L, hn, h => ⟨set_far (fun e => hn (k, x) (by simp) e.symm) h.1, by rw [World.frozen?_setCell]; exact h.2.1, Bs.far hg (fun p hp => hn p (by simp [hp])) h.2.2⟩
theorem Bs.alloc {base : Nat} {w0 w : World} {L : List (Nat × Nat)} {T : List Nat} (h : Bs base w0 T L w) (o : Obj) : Bs base w0 T L (w.alloc o) := Bs.keep ((Below.refl _ _).alloc (Nat.le_refl _) o) h
end Go.Proofs.Ytafeeebgleecfaa.Mat
