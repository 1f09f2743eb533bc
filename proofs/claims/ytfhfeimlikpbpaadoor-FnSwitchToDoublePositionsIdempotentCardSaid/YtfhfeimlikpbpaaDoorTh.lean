/-
  The plain law: what switchToDoublePositions makes.
-/
import Derived.Test.YtfhfeimlikpbpaaDoorTg
namespace Go.Proofs.YtfhfeimlikpbpaaDoor.Cs
set_option linter.unusedVariables false
theorem dbl_head (a : Tp) (r : List Tp) : ∃ h t, dbl (a :: r) = h :: t ∧ (h = a ∨ h.1.length = 2) := by
  cases r with
  | nil => exact ⟨a, [], dbl_last a, .inl rfl⟩
  | cons b r =>
    cases hc : can a b with
    | false => exact ⟨a, _, dbl_no r hc, .inl rfl⟩
    | true =>
      refine ⟨_, _, dbl_yes r hc, .inr ?_⟩
      simp only [can, Bool.and_eq_true, beq_iff_eq, decide_eq_true_eq] at hc
      simp [List.length_append, hc.1.1.1, hc.1.2]
theorem dbl_big {m : Tp} (h : m.1.length = 2) (r : List Tp) : dbl (m :: r) = m :: dbl r := by
  cases r with
  | nil => simp [dbl]
  | cons b r => exact dbl_no r (can_no1 (by omega))
theorem dbl_dbl : ∀ (n : Nat) (L : List Tp), L.length ≤ n → dbl (dbl L) = dbl L
  | _, [], _ => by simp [dbl]
  | _, [a], _ => by simp [dbl]
  | 0, a :: b :: r, h => by simp at h
  | n + 1, a :: b :: r, h => by
    simp only [List.length_cons] at h
    cases hc : can a b with
    | true =>
      rw [dbl_yes r hc]
      rw [dbl_big (by
        simp only [can, Bool.and_eq_true, beq_iff_eq, decide_eq_true_eq] at hc
        simp [List.length_append, hc.1.1.1, hc.1.2]), dbl_dbl n r (by omega)]
    | false =>
      rw [dbl_no r hc]
      have ih := dbl_dbl n (b :: r) (by simp; omega)
      obtain ⟨h1, t, he, hh⟩ := dbl_head b r
      rw [he] at ih ⊢
      rw [dbl_no t, ih]
      rcases hh with rfl | hh
      · exact hc
      · exact can_no3 (by omega)
theorem dbl_flat : ∀ (n : Nat) (L : List Tp), L.length ≤ n → (dbl L).flatMap (·.1) = L.flatMap (·.1)
  | _, [], _ => by simp [dbl]
  | _, [a], _ => by simp [dbl]
  | 0, a :: b :: r, h => by simp at h
  | n + 1, a :: b :: r, h => by
    simp only [List.length_cons] at h
    cases hc : can a b with
    | true => rw [dbl_yes r hc]; simp only [List.flatMap_cons, List.append_assoc]; rw [dbl_flat n r (by omega)]
    | false => rw [dbl_no r hc, List.flatMap_cons, dbl_flat n (b :: r) (by simp; omega), ← List.flatMap_cons]
theorem bld_flat (N : Nat → Nat) (C M : Nat → ByteArray) : ∀ n, (bld N C M n).flatMap (·.1) = List.range' 0 (qs N n)
  | 0 => by simp [bld, qs]
  | n + 1 => by
    rw [bld_succ, List.flatMap_append, bld_flat N C M n, qs]
    simp only [List.flatMap_cons, List.flatMap_nil, List.append_nil]
    have h := List.range'_append_1 (s := 0) (m := qs N n) (n := N n)
    rw [Nat.zero_add] at h
    exact h
/-- how many positions stand in the first i stops -/
def pre (D : List Tp) (i : Nat) : Nat := ((D.take i).flatMap (·.1)).length
theorem pre_zero (D : List Tp) : pre D 0 = 0 := by simp [pre]
theorem pre_succ (D : List Tp) {i : Nat} (h : i < D.length) : pre D (i + 1) = pre D i + D[i].1.length := by
  unfold pre
  rw [List.take_succ_eq_append_getElem h, List.flatMap_append, List.length_append]
  simp
theorem pre_all (D : List Tp) : pre D D.length = (D.flatMap (·.1)).length := by simp [pre]
theorem pre_le (D : List Tp) (i : Nat) : pre D i ≤ (D.flatMap (·.1)).length := by
  unfold pre
  conv => rhs; rw [← List.take_append_drop i D, List.flatMap_append, List.length_append]
  omega
theorem pos_at (D : List Tp) {t : Nat} (hD : D.flatMap (·.1) = List.range' 0 t) {i j : Nat} (h : i < D.length) (hj : j < D[i].1.length) : D[i].1[j] = pre D i + j := by
  have e : D = D.take i ++ D[i] :: D.drop (i + 1) := by rw [← List.drop_eq_getElem_cons h, List.take_append_drop]
  have h2 : (D.flatMap (·.1))[pre D i + j]? = some (D[i].1[j]) := by
    obtain ⟨P, hP⟩ : ∃ P, P = pre D i := ⟨_, rfl⟩
    rw [← hP]
    unfold pre at hP
    rw [show D.flatMap (·.1) = (D.take i ++ D[i] :: D.drop (i + 1)).flatMap (·.1) from congrArg _ e]
    rw [List.flatMap_append, List.getElem?_append_right (by omega)]
    rw [show P + j - ((D.take i).flatMap (·.1)).length = j by omega]
    rw [List.flatMap_cons, List.getElem?_append_left hj, List.getElem?_eq_getElem hj]
  rw [hD] at h2
  have h3 := List.getElem?_eq_some_iff.1 h2
  obtain ⟨h4, h5⟩ := h3
  rw [← h5, List.getElem_range']
  omega
end Go.Proofs.YtfhfeimlikpbpaaDoor.Cs
