/-
  A region that draws its order and works on boxes of floats: the invariant and its steps.
-/
import Derived.BigCall
import Derived.Test.YtafeeebgleecfaaPb
namespace Go.Proofs.Ytafeeebgleecfaa.Mat
open Go.ChangeShapes Go.WideShapes Go.ChangeAt Go.RowKit
open FL Pl
set_option linter.unusedVariables false
def vals (A : List Nat) (vs : Nat → Value) (ρ : Nat → Nat) : Nat → Value := fun i => if i ∈ A then .pointer (some ⟨ρ i, 0, none⟩) else vs i
/-- what holds while such a region runs: 'D' the slots that its operations write, 'A' the operations that make a box, 'vs' what the others yield, 'L' the boxes that were there -/
def PI (base : Nat) (w0 : World) (L : List (Nat × Nat)) (D : List (Option Tmp)) (A : List Nat) (vs : Nat → Value) (a0 : Act) (b : Nat → Bool) (a : Act) (w : World) : Prop :=
  ∃ ρ : Nat → Nat, a = puts b (vals A vs ρ) 0 D a0 ∧ Bx base w0 L w ∧ (∀ i ∈ A, b i = true → w.cell? ⟨ρ i, 0, none⟩ = some (.float .f64 0) ∧ w.frozen? ⟨ρ i, 0, none⟩ = false ∧ base ≤ ρ i ∧ (∀ p ∈ L, p.1 ≠ ρ i)) ∧ ∀ i ∈ A, ∀ j ∈ A, b i = true → b j = true → i ≠ j → ρ i ≠ ρ j
section
variable {base : Nat} {w0 w w' : World} {L : List (Nat × Nat)} {D : List (Option Tmp)} {A : List Nat} {vs : Nat → Value} {a0 a : Act} {b : Nat → Bool} {P : Program} {Q : Exit → Act → World → Prop}
theorem puts_none {val : Nat → Value} : ∀ {D : List (Option Tmp)} {k : Nat} {a : Act}, puts (fun _ => false) val k D a = a
  | [], _, _ => rfl
  | d :: D, k, a => by unfold puts; exact puts_none
theorem PI.start (h : Bx base w0 L w) : PI base w0 L D A vs a0 (fun _ => false) a0 { w with drawn := w.drawn + 1 } :=
  ⟨fun _ => 0, puts_none.symm, h.drew, (fun i _ hb => by cases hb), fun i _ j _ hb => by cases hb⟩
theorem PI.quiet {i : Nat} {d : Option Tmp} (h : PI base w0 L D A vs a0 b a w) (hb : b i = false) (hA : i ∉ A) (hn : onceB D = true) (hd : D[i]? = some d) (hw : Below w.heap.size w w') : PI base w0 L D A vs a0 (upd b i) (a.put d (vs i)) w' := by
  obtain ⟨ρ, rfl, hB, hC, hN⟩ := h
  have hu : ∀ j ∈ A, upd b i j = true → b j = true := by
    intro j hj h
    unfold upd at h
    split at h
    · rename_i e; subst e; exact absurd hj hA
    · exact h
  refine ⟨ρ, ?_, hB.keep hw, ?_, fun j hj k hk h1 h2 => hN j hj k hk (hu j hj h1) (hu k hk h2)⟩
  · have hv : vals A vs ρ i = vs i := by unfold vals; rw [if_neg hA]
    have := puts_upd (b := b) (val := vals A vs ρ) (k := 0) (j := i) (a := a0) hn hd (by rw [Nat.zero_add]; exact hb)
    rw [Nat.zero_add, hv] at this
    exact this
  · intro j hj h
    obtain ⟨c1, c2, c3, c4⟩ := hC j hj (hu j hj h)
    exact ⟨later hw c1, by rw [hw.frozen (World.block_lt_of_cell? w _ c1)]; exact c2, c3, c4⟩
theorem PI.alloc {i : Nat} {d : Tmp} (T : TypeId) (h : PI base w0 L D A vs a0 b a w) (hb : b i = false) (hA : i ∈ A) (hn : onceB D = true) (hd : D[i]? = some (some d)) : PI base w0 L D A vs a0 (upd b i) (a.put (some d) (.pointer (some ⟨w.heap.size, 0, none⟩))) (w.alloc (.cells #[.float .f64 0] T)) := by
  obtain ⟨ρ, rfl, hB, hC, hN⟩ := h
  have hw : Below w.heap.size w (w.alloc (.cells #[.float .f64 0] T)) := (Below.refl _ _).alloc (Nat.le_refl _) _
  refine ⟨fun j => if j = i then w.heap.size else ρ j, ?_, hB.keep hw, ?_, ?_⟩
  · have hv : vals A vs (fun j => if j = i then w.heap.size else ρ j) i = .pointer (some ⟨w.heap.size, 0, none⟩) := by simp [vals, hA]
    have h1 := puts_upd (b := b) (val := vals A vs (fun j => if j = i then w.heap.size else ρ j)) (k := 0) (j := i) (a := a0) hn hd (by rw [Nat.zero_add]; exact hb)
    rw [Nat.zero_add, hv] at h1
    rw [← h1]
    congr 1
    apply puts_congr
    intro j hj
    have hne : j ≠ i := fun e => by rw [e, hb] at hj; cases hj
    simp [vals, hne]
  · intro j hj h
    by_cases e : j = i
    · subst e
      simp only [if_true]
      exact ⟨by simp [go_sem], by simp [go_sem], hB.below.1, fun p hp => Nat.ne_of_lt (hB.lt p hp)⟩
    · have hbj : b j = true := by unfold upd at h; rw [if_neg e] at h; exact h
      obtain ⟨c1, c2, c3, c4⟩ := hC j hj hbj
      simp only [if_neg e]
      exact ⟨later hw c1, by rw [hw.frozen (World.block_lt_of_cell? w _ c1)]; exact c2, c3, c4⟩
  · intro j hj k hk h1 h2 hne
    unfold upd at h1 h2
    by_cases e1 : j = i
    · by_cases e2 : k = i
      · omega
      · rw [if_neg e2] at h2
        have := World.block_lt_of_cell? w _ (hC k hk h2).1
        simp only [e1, if_true, if_neg e2]
        exact Nat.ne_of_gt this
    · rw [if_neg e1] at h1
      by_cases e2 : k = i
      · have := World.block_lt_of_cell? w _ (hC j hj h1).1
        simp only [e2, if_true, if_neg e1]
        exact Nat.ne_of_lt this
      · rw [if_neg e2] at h2
        simp only [if_neg e1, if_neg e2]
        exact hN j hj k hk h1 h2 hne
theorem PI.bx (h : PI base w0 L D A vs a0 b a w) : Bx base w0 L w := by
  obtain ⟨ρ, -, hB, -⟩ := h
  exact hB
theorem edge {o : Oper} (he : ∀ e ∈ o.after, Region.binds .any e = true → b e.on = true) (j : Nat) (h : o.after.any (fun e => Region.binds .any e && e.on == j) = true) : b j = true := by
  rw [Array.any_eq_true'] at h
  obtain ⟨e, hm, h1⟩ := h
  simp only [Bool.and_eq_true, beq_iff_eq] at h1
  rw [← h1.2]
  exact he e hm h1.1
theorem PI.old {t : Tmp} (h : PI base w0 L D A vs a0 b a w) (ht : D.contains (some t) = false) : a.eval (.tmp t) = a0.eval (.tmp t) := by
  obtain ⟨ρ, rfl, -⟩ := h
  exact puts_old (by simpa using ht)
theorem PI.new {t : Tmp} (j : Nat) (h : PI base w0 L D A vs a0 b a w) (hb : b j = true) (hA : A.contains j = false) (hn : onceB D = true) (hd : D[j]? = some (some t)) (ht : t < a0.tmps.size) : a.eval (.tmp t) = vs j := by
  obtain ⟨ρ, rfl, -⟩ := h
  have := puts_new (b := b) (val := vals A vs ρ) (k := 0) (j := j) (a := a0) hn hd (by rw [Nat.zero_add]; exact hb) ht
  rw [Nat.zero_add] at this
  rw [this]
  unfold vals
  rw [if_neg (by simpa using hA)]
theorem PI.stepQuiet {o : Oper} {i : Nat} (h : PI base w0 L D A vs a0 b a w) (hb : b i = false) (hA : A.contains i = false) (hn : onceB D = true) (hd : D[i]? = some o.dst) (hr : (execOp a.eval o).run P w = .ok (.value (vs i)) w) :
    o.wp P a w (fun a' w' => PI base w0 L D A vs a0 (upd b i) a' w') Q := by
  unfold Oper.wp
  rw [hr, Oper.upon_value]
  exact h.quiet hb (by simpa using hA) hn hd (Below.refl _ _)
theorem PI.stepCall {o : Oper} {i : Nat} {f : FuncId} {args : Array Value} (h : PI base w0 L D A vs a0 b a w) (hb : b i = false) (hA : A.contains i = false) (hn : onceB D = true) (hd : D[i]? = some o.dst) (hr : (execOp a.eval o).run P w = .ok (.enter f args) w)
    (hc : Calls P f args w fun e w' => e = .returned (vs i) ∧ Below w.heap.size w w') :
    o.wp P a w (fun a' w' => PI base w0 L D A vs a0 (upd b i) a' w') Q := by
  unfold Oper.wp
  rw [hr, Oper.upon_enter]
  refine hc.mono ?_
  rintro e w' ⟨rfl, hw⟩
  exact h.quiet hb (by simpa using hA) hn hd hw
theorem PI.stepAlloc {o : Oper} {i : Nat} {d : Tmp} (T : TypeId) (h : PI base w0 L D A vs a0 b a w) (hb : b i = false) (hA : A.contains i = true) (hn : onceB D = true) (ho : o.dst = some d) (hd : D[i]? = some (some d)) (hr : (execOp a.eval o).run P w = .ok (.value (.pointer (some ⟨w.heap.size, 0, none⟩))) (w.alloc (.cells #[.float .f64 0] T))) :
    o.wp P a w (fun a' w' => PI base w0 L D A vs a0 (upd b i) a' w') Q := by
  unfold Oper.wp
  rw [hr, Oper.upon_value, ho]
  exact h.alloc T hb (by simpa using hA) hn hd
end
attribute [local go_sem] build_f64
theorem op_load (ev : Operand → Value) (o : Oper) (x : Operand) (g n : Nat) (w : World) (ho : o.op = .load 41 x) (he : ev x = .pointer (some ⟨g, 0, none⟩)) (hc : w.cell? ⟨g, 0, none⟩ = some (.float .f64 n)) : (execOp ev o).run Try.prog w = .ok (.value (.agg #[.float .f64 n])) w := by
  obtain ⟨dst, op, ty, pos, after, guard⟩ := o
  subst ho
  simp [go_sem, he, hc]
theorem op_alloc (a : Act) (o : Oper) (w : World) (ho : o.op = .alloc 41) : (execOp a.eval o).run Try.prog w = .ok (.value (.pointer (some ⟨w.heap.size, 0, none⟩))) (w.alloc (.cells #[.float .f64 0] 41)) := by
  obtain ⟨dst, op, ty, pos, after, guard⟩ := o
  subst ho
  simp [go_sem]
theorem op_call (a : Act) (o : Oper) (f : FuncId) (fn : Func) (xs : Array Operand) (ats : Array TypeId) (w : World) (ho : o.op = .call { callee := .value (.func f), args := xs, argTypes := ats }) (hf : Try.prog.funcs[f]? = some fn) (hname : (fn.name == "runtime.NumGoroutine") = false) (hb : fn.body.isNone = false) : (execOp a.eval o).run Try.prog w = .ok (.enter f (xs.map a.eval)) w := by
  obtain ⟨dst, op, ty, pos, after, guard⟩ := o
  subst ho
  have h1 : fn.name ≠ "runtime.NumGoroutine" := by simpa using hname
  have h2 : ¬ fn.body = none := by intro h; rw [h] at hb; cases hb
  rw [execOp_call_go]
  simp [callFunc, hf, h1, h2]
end Go.Proofs.Ytafeeebgleecfaa.Mat
