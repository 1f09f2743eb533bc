/-
  Boxes of floats in a region that draws its order, continued: stores into boxes among the other operations.
-/
import Derived.Test.YtafeeebgleecfaaPd
import Derived.Test.YtafeeebgleecfaaPlx
namespace Go.Proofs.Ytafeeebgleecfaa.Mat
open Go.ChangeShapes Go.WideShapes Go.ChangeAt Go.RowKit
open FL Pl Plx
set_option linter.unusedVariables false
attribute [local go_sem] run_store_float
theorem op_store (ev : Operand → Value) (o : Oper) (x y : Operand) (g n m : Nat) (w : World) (ho : o.op = .store 41 x y) (he : ev x = .pointer (some ⟨g, 0, none⟩)) (hy : ev y = .agg #[.float .f64 n]) (hc : w.cell? ⟨g, 0, none⟩ = some (.float .f64 m)) (hf : w.frozen? ⟨g, 0, none⟩ = false) : (execOp ev o).run Try.prog w = .ok .skip (w.setCell ⟨g, 0, none⟩ (.float .f64 n)) := by
  obtain ⟨dst, op, ty, pos, after, guard⟩ := o
  subst ho
  simp [go_sem, he, hc, hy, hf]
theorem set_fst {L : List (Nat × Nat)} {k : Nat} (hk : k < L.length) (y : Nat) {P : Nat → Prop} (h : ∀ p ∈ L, P p.1) : ∀ p ∈ L.set k (L[k].1, y), P p.1 := by
  intro p hp
  rcases List.mem_or_eq_of_mem_set hp with h1 | h1
  · exact h p h1
  · rw [h1]; exact h L[k] (List.getElem_mem hk)
theorem PI.stepStore {base : Nat} {w0 w : World} {L : List (Nat × Nat)} {D : List (Option Tmp)} {A : List Nat} {vs : Nat → Value} {a0 a : Act} {b : Nat → Bool} {P : Program} {Q : Exit → Act → World → Prop} {o : Oper} {i k y : Nat} (h : PI base w0 L D A vs a0 b a w) (hb : b i = false) (hA : A.contains i = false) (hn : onceB D = true) (ho : o.dst = none) (hd : D[i]? = some none) (hap : Apart base L) (hk : k < L.length) (hr : (execOp a.eval o).run P w = .ok .skip (w.setCell ⟨L[k].1, 0, none⟩ (.float .f64 y))) :
    o.wp P a w (fun a' w' => PI base w0 (L.set k (L[k].1, y)) D A vs a0 (upd b i) a' w') Q := by
  unfold Oper.wp
  rw [hr, Oper.upon_skip, ho]
  obtain ⟨ρ, rfl, hB, hC, hN⟩ := h
  have hAi : i ∉ A := by simpa using hA
  have hu : ∀ j ∈ A, upd b i j = true → b j = true := by
    intro j hj h
    unfold upd at h
    split at h
    · rename_i e; subst e; exact absurd hj hAi
    · exact h
  refine ⟨ρ, ?_, hB.set y hap k hk, ?_, fun j hj k hk h1 h2 => hN j hj k hk (hu j hj h1) (hu k hk h2)⟩
  · have := puts_upd (b := b) (val := vals A vs ρ) (k := 0) (j := i) (a := a0) hn hd (by rw [Nat.zero_add]; exact hb)
    rw [Nat.zero_add] at this
    exact this
  · intro j hj h
    obtain ⟨c1, c2, c3, c4⟩ := hC j hj (hu j hj h)
    exact ⟨set_far (fun e => c4 _ (List.getElem_mem hk) e) c1, by rw [World.frozen?_setCell]; exact c2, c3, set_fst hk y (P := fun g => g ≠ ρ j) c4⟩
end Go.Proofs.Ytafeeebgleecfaa.Mat
