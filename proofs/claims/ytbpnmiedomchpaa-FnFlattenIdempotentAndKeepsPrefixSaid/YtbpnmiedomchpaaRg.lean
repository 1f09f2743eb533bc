/-
  Ranges of cells in blocks: what keeps them.
-/
import Derived.WalkKit
import Derived.ProofKit
import Derived.Below
import Derived.Lib.Hide
import Derived.Deep.MidRow
import Derived.Deep.Draws
namespace Go.Proofs.Ytbpnmiedomchpaa.Rg
open Go.ChangeShapes Go.WideShapes Go.ChangeAt Go.RowKit
set_option linter.unusedVariables false
theorem later {w1 w2 : World} (hb : Below w1.heap.size w1 w2) {p : Addr} {v : Value} (h : w1.cell? p = some v) : w2.cell? p = some v := (hb.cell (World.block_lt_of_cell? w1 p h)).trans h
theorem below_drewN {B : Nat} {a w : World} (h : Below B a w) (n : Nat) : Below B a (w.drewN n) := ⟨h.os, h.tape, h.output, h.size, h.block⟩
theorem size_setCells (b : Nat) : ∀ (vs : List Value) (o : Nat) (w : World), (w.setCells b o vs).heap.size = w.heap.size
  | [], _, _ => rfl
  | v :: r, o, w => by rw [World.setCells, size_setCells b r]; simp [World.setCell]
theorem below_setCells {B b : Nat} (hB : B ≤ b) : ∀ (vs : List Value) (o : Nat) {a w : World}, Below B a w → Below B a (w.setCells b o vs)
  | [], _, _, _, h => h
  | v :: r, o, a, w, h => by rw [World.setCells]; exact below_setCells hB r (o + 1) (h.setCell hB _)
section
variable {w w' : World} {b o n : Nat} {cs ds : List Value}
theorem rg_keep (hb : Below w.heap.size w w') (h : w.rangeAt b o cs) : w'.rangeAt b o cs := fun j v hv => later hb (h j v hv)
theorem rg_below {B : Nat} (hb : Below B w w') (hlt : b < B) (h : w.rangeAt b o cs) : w'.rangeAt b o cs := fun j v hv => (hb.cell (p := ⟨b, o + j, none⟩) hlt).trans (h j v hv)
theorem th_below {B : Nat} (hb : Below B w w') (hlt : b < B) (h : w.there b o n) : w'.there b o n := fun j hj =>
  ⟨by rw [hb.cell (p := ⟨b, o + j, none⟩) hlt]; exact (h j hj).1, by rw [hb.frozen (p := ⟨b, o + j, none⟩) hlt]; exact (h j hj).2⟩
theorem th_lt (h : w.there b o n) (hn : 0 < n) : b < w.heap.size := by
  obtain ⟨u, hu⟩ := Option.isSome_iff_exists.1 (h 0 hn).1
  exact World.block_lt_of_cell? w _ hu
theorem th_keep (hb : Below w.heap.size w w') (h : w.there b o n) : w'.there b o n := by
  rcases Nat.eq_zero_or_pos n with h0 | h0
  · subst h0; exact fun j hj => absurd hj (by omega)
  · exact th_below hb (th_lt h h0) h
theorem rg_drewN (h : w.rangeAt b o cs) (k : Nat) : (w.drewN k).rangeAt b o cs := h
theorem th_drewN (h : w.there b o n) (k : Nat) : (w.drewN k).there b o n := h
theorem rg_append (h1 : w.rangeAt b o cs) (h2 : w.rangeAt b (o + cs.length) ds) : w.rangeAt b o (cs ++ ds) := fun j v hv => by
  rcases Nat.lt_or_ge j cs.length with hlt | hge
  · exact h1 j v (by rwa [List.getElem?_append_left hlt] at hv)
  · rw [List.getElem?_append_right hge] at hv
    have := h2 (j - cs.length) v hv
    rwa [show o + cs.length + (j - cs.length) = o + j by omega] at this
theorem rg_left (h : w.rangeAt b o (cs ++ ds)) : w.rangeAt b o cs := fun j v hv => h j v (by
  rw [List.getElem?_append_left (List.getElem?_eq_some_iff.1 hv).1]; exact hv)
theorem rg_right (h : w.rangeAt b o (cs ++ ds)) : w.rangeAt b (o + cs.length) ds := fun j v hv => by
  have := h (cs.length + j) v (by rw [List.getElem?_append_right (by omega)]; simpa using hv)
  rwa [← Nat.add_assoc] at this
theorem th_sub {o' m : Nat} (h : w.there b o n) (h1 : o ≤ o') (h2 : o' + m ≤ o + n) : w.there b o' m := fun j hj => by
  have := h (o' - o + j) (by omega)
  rwa [show o + (o' - o + j) = o' + j by omega] at this
theorem rg_new (w : World) (cs : Array Value) (t : TypeId) : (w.alloc (.cells cs t)).rangeAt w.heap.size 0 cs.toList := fun j v hv => by
  rw [Nat.zero_add, cell_of_row _ _ j cs t (0, 0) (heap_alloc_new w _)]
  simpa using hv
theorem th_new (w : World) (cs : Array Value) (t : TypeId) (hn : n = cs.size) : (w.alloc (.cells cs t)).there w.heap.size 0 n := fun j hj => by
  subst hn
  rw [Nat.zero_add, cell_of_row _ _ j cs t (0, 0) (heap_alloc_new w _), frozen_of_row _ _ j cs t (heap_alloc_new w _)]
  simp [hj]
theorem rg_cell (h : w.rangeAt b o cs) (j : Nat) {v : Value} (hv : cs[j]? = some v) : w.cell? ⟨b, o + j, none⟩ = some v := h j v hv
theorem rg_lt (h : w.rangeAt b o cs) (hn : 0 < cs.length) : b < w.heap.size := World.block_lt_of_cell? w _ (h 0 _ (List.getElem?_eq_getElem hn))
end
end Go.Proofs.Ytbpnmiedomchpaa.Rg
