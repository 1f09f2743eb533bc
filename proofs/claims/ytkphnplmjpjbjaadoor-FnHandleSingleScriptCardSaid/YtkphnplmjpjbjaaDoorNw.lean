/-
  A new parser.
-/
import Derived.Test.YtkphnplmjpjbjaaDoorHs
import Derived.Carry
namespace Go.Proofs.YtkphnplmjpjbjaaDoor.Sy
open Go.ChangeShapes Go.WideShapes Go.ChangeAt Go.RowKit Rg
set_option linter.unusedVariables false
theorem PB.fresh {w : World} {m1 m2 p : Nat} {ml : Bool} (h1 : w.heap[m1]? = some (mpO [])) (h2 : w.heap[m2]? = some (mpO [])) (hp : Bk w p 86 (parA ml (.slice none 0 0) (.slice none 0 0) m1 m2)) (hne : m1 ≠ m2) :
    PB w p ml (.slice none 0 0) (.slice none 0 0) m1 m2 [] [] 0 :=
  ⟨hp, by simpa using h1, by simpa using h2, ⟨rfl, .inl ⟨rfl, rfl⟩⟩, ⟨rfl, .inl ⟨rfl, rfl⟩⟩, hne⟩
def New (B0 : Nat) (ml : Bool) (w : World) (e : Ending) (w' : World) : Prop := ∃ (p : Nat) (X : Nat → Prop), e = .returned (.pointer (some ⟨p, 0, none⟩)) ∧ PS w' X p ml [] ∧ (∀ i, X i → w.heap.size ≤ i ∧ i < w'.heap.size) ∧ Below w.heap.size w w'
set_option maxRecDepth 100000 in
set_option maxHeartbeats 2000000 in
theorem np_any (ml : Bool) (w : World) : Calls Tryd.prog 7 #[.bool ml] w (New w.heap.size ml w) := by
  have hmm : ∀ W : World, (Instr.makeMap 47 none).run Tryd.prog W = .ok (.map (some W.heap.size)) (W.alloc (mpO [])) := fun W => run_makeMap _ W
  go_enter Tryd.func7, Tryd.ntmps7
  go_wp2_with fail
  go_ret
  have hn : (if ml then ([] : SY).length else 0) = 0 := by cases ml <;> rfl
  have hb : ∀ o : Obj, Below w.heap.size w (((w.alloc (mpO [])).alloc (mpO [])).alloc o) := fun o => (((Below.refl _ _).alloc (Nat.le_refl _) _).alloc (by simp) _).alloc (by simp; omega) _
  refine ⟨w.heap.size + 1 + 1, fun i => w.heap.size ≤ i ∧ i < w.heap.size + 3, rfl, ⟨.slice none 0 0, .slice none 0 0, w.heap.size, w.heap.size + 1, ?_, ?_⟩, ?_, hb _⟩
  · rw [hn]
    refine PB.fresh ?_ ?_ ?_ (by omega)
    · exact (((Below.refl (w.alloc (mpO [])).heap.size (w.alloc (mpO []))).alloc (Nat.le_refl _) _).alloc (by simp) _).block w.heap.size (by simp) |>.trans (heap_alloc_new w _)
    · refine ((Below.refl ((w.alloc (mpO [])).alloc (mpO [])).heap.size ((w.alloc (mpO [])).alloc (mpO []))).alloc (Nat.le_refl _) _).block (w.heap.size + 1) (by simp) |>.trans ?_
      have := heap_alloc_new (w.alloc (mpO [])) (mpO [])
      simpa using this
    · have := heap_alloc_new ((w.alloc (mpO [])).alloc (mpO [])) (.cells (parA ml (.slice none 0 0) (.slice none 0 0) w.heap.size (w.heap.size + 1)) 86)
      have e : ((w.alloc (mpO [])).alloc (mpO [])).heap.size = w.heap.size + 1 + 1 := by simp
      rw [e] at this
      exact this
  · rintro i (rfl | rfl | rfl | h | h)
    · omega
    · omega
    · omega
    · cases h
    · cases h
  · intro i hi
    refine ⟨hi.1, ?_⟩
    have := hi.2
    simp
    omega
end Go.Proofs.YtkphnplmjpjbjaaDoor.Sy
