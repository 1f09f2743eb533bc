/-
  A region that draws its order and works on boxes: loads of boxes, calls that make memory, new boxes; each operation is looked at once.
-/
import Derived.Test.YtafeeebgleecfaaPl
import Derived.Test.YtafeeebgleecfaaBx
namespace Pl
open Go
set_option linter.unusedVariables false
def puts (b : Nat → Bool) (val : Nat → Value) : Nat → List (Option Tmp) → Act → Act
  | _, [], a => a
  | k, d :: D, a => puts b val (k + 1) D (if b k then a.put d (val k) else a)
theorem put_comm (a : Act) (d d' : Option Tmp) (v v' : Value) (h : d = none ∨ d' = none ∨ d ≠ d') : (a.put d v).put d' v' = (a.put d' v').put d v := by
  cases d with
  | none => rfl
  | some x =>
    cases d' with
    | none => rfl
    | some y =>
      have hne : x ≠ y := by
        rcases h with h | h | h
        · cases h
        · cases h
        · exact fun e => h (by rw [e])
      simp only [Act.put]
      rw [Array.setIfInBounds_comm _ _ hne]
theorem puts_put {b : Nat → Bool} {val : Nat → Value} {d : Option Tmp} {v : Value} : ∀ {D : List (Option Tmp)} {k : Nat} {a : Act}, (d = none ∨ d ∉ D) → (puts b val k D a).put d v = puts b val k D (a.put d v)
  | [], _, _, _ => rfl
  | d' :: D, k, a, h => by
    unfold puts
    have h' : d = none ∨ d ∉ D := h.imp id (fun h1 h2 => h1 (by simp [h2]))
    rw [puts_put h']
    congr 1
    split
    · rw [put_comm a d' d]
      rcases h with h | h
      · exact .inr (.inl h)
      · exact .inr (.inr (fun e => h (by simp [e])))
    · rfl
/-- each slot is written once -/
def onceB : List (Option Tmp) → Bool
  | [] => true
  | d :: D => (d == none || !D.contains d) && onceB D
theorem puts_upd {b : Nat → Bool} {val : Nat → Value} : ∀ {D : List (Option Tmp)} {k j : Nat} {a : Act} {d : Option Tmp}, onceB D = true → D[j]? = some d → b (k + j) = false → (puts b val k D a).put d (val (k + j)) = puts (upd b (k + j)) val k D a
  | [], _, _, _, _, _, h, _ => by simp at h
  | d' :: D, k, 0, a, d, hn, h, hb => by
    simp only [List.getElem?_cons_zero, Option.some.injEq] at h
    subst h
    simp only [onceB, Bool.and_eq_true, Bool.or_eq_true, beq_iff_eq, Bool.not_eq_true', List.contains_eq_mem, decide_eq_false_iff_not] at hn
    simp only [Nat.add_zero] at hb ⊢
    unfold puts
    rw [hb, puts_put hn.1]
    have e : upd b k k = true := by unfold upd; rw [if_pos rfl]
    rw [e]
    simp only [Bool.false_eq_true, if_false, if_true]
    have key : ∀ (D : List (Option Tmp)) (n : Nat) (a : Act), k < n → puts b val n D a = puts (upd b k) val n D a := by
      intro D
      induction D with
      | nil => intro n a _; rfl
      | cons d D ih =>
        intro n a hn
        unfold puts
        have e : upd b k n = b n := by unfold upd; rw [if_neg (by omega)]
        rw [e, ih _ _ (by omega)]
    exact key _ _ _ (by omega)
  | d' :: D, k, j + 1, a, d, hn, h, hb => by
    simp only [List.getElem?_cons_succ] at h
    simp only [onceB, Bool.and_eq_true] at hn
    have e1 : k + (j + 1) = (k + 1) + j := by omega
    rw [e1] at hb ⊢
    unfold puts
    rw [puts_upd hn.2 h hb]
    have e : upd b (k + 1 + j) k = b k := by unfold upd; rw [if_neg (by omega)]
    rw [e]
theorem puts_size {b : Nat → Bool} {val : Nat → Value} : ∀ {D : List (Option Tmp)} {k : Nat} {a : Act}, (puts b val k D a).tmps.size = a.tmps.size
  | [], _, _ => rfl
  | d :: D, k, a => by
    unfold puts
    rw [puts_size]
    split
    · cases d <;> simp [Act.put]
    · rfl
theorem puts_old {b : Nat → Bool} {val : Nat → Value} {t : Tmp} : ∀ {D : List (Option Tmp)} {k : Nat} {a : Act}, some t ∉ D → (puts b val k D a).eval (.tmp t) = a.eval (.tmp t)
  | [], _, _, _ => rfl
  | d :: D, k, a, h => by
    unfold puts
    rw [puts_old (fun h1 => h (by simp [h1]))]
    split
    · exact Act.eval_put (fun x hx e => h (by
        have : t = x := by injection e
        rw [this, ← hx]; simp))
    · rfl
theorem puts_new {b : Nat → Bool} {val : Nat → Value} {t : Tmp} : ∀ {D : List (Option Tmp)} {k j : Nat} {a : Act}, onceB D = true → D[j]? = some (some t) → b (k + j) = true → t < a.tmps.size → (puts b val k D a).eval (.tmp t) = val (k + j)
  | [], _, _, _, _, h, _, _ => by simp at h
  | d' :: D, k, 0, a, hn, h, hb, ht => by
    simp only [List.getElem?_cons_zero, Option.some.injEq] at h
    subst h
    simp only [onceB, Bool.and_eq_true, Bool.or_eq_true, beq_iff_eq, Bool.not_eq_true', List.contains_eq_mem, decide_eq_false_iff_not] at hn
    simp only [Nat.add_zero] at hb ⊢
    unfold puts
    have hmem : some t ∉ D := by
      rcases hn.1 with h | h
      · cases h
      · exact h
    rw [puts_old hmem, hb]
    simp only [if_true, Act.eval, Act.put]
    rw [Array.getD_eq_getD_getElem?, Array.getElem?_setIfInBounds_self_of_lt ht]
    rfl
  | d' :: D, k, j + 1, a, hn, h, hb, ht => by
    simp only [List.getElem?_cons_succ] at h
    simp only [onceB, Bool.and_eq_true] at hn
    have e1 : k + (j + 1) = (k + 1) + j := by omega
    rw [e1] at hb ⊢
    unfold puts
    refine puts_new hn.2 h hb ?_
    split
    · cases d' <;> simpa [Act.put] using ht
    · exact ht
theorem puts_congr {b : Nat → Bool} {val val' : Nat → Value} : ∀ {D : List (Option Tmp)} {k : Nat} {a : Act}, (∀ i, b i = true → val i = val' i) → puts b val k D a = puts b val' k D a
  | [], _, _, _ => rfl
  | d :: D, k, a, h => by
    unfold puts
    rw [puts_congr h]
    congr 1
    split
    · rename_i hb; rw [h k hb]
    · rfl
end Pl
