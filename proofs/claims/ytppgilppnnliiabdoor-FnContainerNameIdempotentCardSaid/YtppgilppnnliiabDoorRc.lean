/-
  Rows of single cells under construction.
-/
import Derived.Test.YtppgilppnnliiabDoorTk
namespace Go.Proofs.YtppgilppnnliiabDoor.Sy
open Go.ChangeShapes Go.WideShapes Go.ChangeAt Go.RowKit Rg
set_option linter.unusedVariables false
def one (F : Nat → Value) (i : Nat) : List Value := [F i]
/-- block g is a row of n cells F -/
def RC (w : World) (g : Nat) (t : TypeId) (F : Nat → Value) (n : Nat) : Prop := Bk w g t (rowg (one F) n).toArray
section
variable {w w' : World} {g i n : Nat} {t : TypeId} {F F' : Nat → Value}
theorem RC.cell (h : RC w g t F n) (hi : i < n) : w.cell? ⟨g, i, none⟩ = some (F i) := by
  have h2 := rowg_at (one F) (s := 1) (fun _ => rfl) n i 0 hi (by omega)
  rw [Nat.mul_one, Nat.add_zero] at h2
  exact Bk.cell h i (by rw [List.getElem?_toArray, h2]; rfl)
theorem RC.congr (h : RC w g t F n) (he : ∀ j, j < n → F j = F' j) : RC w g t F' n := by
  unfold RC at h ⊢
  rw [← rowg_congr (f := one F) (f' := one F') n (fun j hj => by unfold one; rw [he j hj])]
  exact h
/-- place k is set -/
theorem RC.set {k : Nat} {v : Value} (h : RC w g t F n) (hk : k < n) (h1 : F' k = v) (h2 : ∀ j, j ≠ k → F' j = F j) : RC (w.setCell ⟨g, k, none⟩ v) g t F' n := by
  have hr := rowg_set (f := one F) (f' := one F') (s := 1) (fun _ => rfl) (i := k) (j := 0) (u := v) (by unfold one; rw [h1]; rfl) (by omega) (fun j hj => by unfold one; rw [h2 j hj]) n hk
  have h3 := Bk.set_ h k v
  unfold RC
  rw [← hr]
  simpa using h3
end
/-- the first k places of F, the rest d -/
def upto (F : Nat → Value) (d : Value) (k i : Nat) : Value := if i < k then F i else d
theorem upto_next {F : Nat → Value} {d : Value} {k : Nat} : upto F d (k + 1) k = F k ∧ ∀ j, j ≠ k → upto F d (k + 1) j = upto F d k j := by
  refine ⟨if_pos (by omega), fun j hj => ?_⟩
  unfold upto
  by_cases h : j < k
  · rw [if_pos h, if_pos (by omega)]
  · rw [if_neg h, if_neg (by omega)]
theorem RC.next {w : World} {g n k : Nat} {t : TypeId} {F : Nat → Value} {d : Value} (h : RC w g t (upto F d k) n) (hk : k < n) : RC (w.setCell ⟨g, k, none⟩ (F k)) g t (upto F d (k + 1)) n :=
  h.set hk upto_next.1 upto_next.2
theorem made_cells (d : Value) (n : Nat) : madeCells #[d] (n * 1) = (rowg (one fun _ => d) n).toArray := by
  apply Array.ext'
  apply List.ext_getElem?
  intro i
  by_cases hi : i < n
  · have h2 := rowg_at (one fun _ => d) (s := 1) (fun _ => rfl) n i 0 hi (by omega)
    rw [Nat.mul_one, Nat.add_zero] at h2
    show (madeCells #[d] (n * 1)).toList[i]? = _
    rw [h2]
    simp [madeCells, hi, one, Nat.mod_one]
  · rw [List.getElem?_eq_none, List.getElem?_eq_none]
    · have := rowg_len (one fun _ => d) (s := 1) (fun _ => rfl) n
      show (rowg (one fun _ => d) n).length ≤ i
      omega
    · simp [madeCells]; omega
theorem RC.made (w : World) (d : Value) (n : Nat) (t : TypeId) (F : Nat → Value) : RC (w.alloc (.cells (madeCells #[d] (n * 1)) t)) w.heap.size t (upto F d 0) n := by
  have h : RC (w.alloc (.cells (madeCells #[d] (n * 1)) t)) w.heap.size t (fun _ => d) n := by
    unfold RC
    rw [← made_cells]
    exact heap_alloc_new w _
  exact h.congr fun j hj => by unfold upto; rw [if_neg (by omega)]
end Go.Proofs.YtppgilppnnliiabDoor.Sy
