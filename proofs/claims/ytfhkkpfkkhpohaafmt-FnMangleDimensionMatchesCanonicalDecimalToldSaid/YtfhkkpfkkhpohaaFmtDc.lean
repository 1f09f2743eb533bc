/-
  The plain law of mangleDimension: what shiftDot writes is the canonical decimal.
-/
import Derived.Test.YtfhkkpfkkhpohaaFmtSd
namespace Go.Proofs.YtfhkkpfkkhpohaaFmt.Sd
set_option linter.unusedVariables false
/-- the digit at place i of the digits padded with zeros -/
def vd (A : List UInt8) (i : Int) : UInt8 := if 0 ≤ i then A.getD i.toNat 48 else 48
def seg (A : List UInt8) (a : Int) (n : Nat) : List UInt8 := (List.range n).map (fun j : Nat => vd A (a + (j : Int)))
/-- what canon writes behind the sign: first nonzero digit f, last nonzero digit l, point at q -/
def can (A : List UInt8) (f l q : Int) : List UInt8 := seg A f (q - f).toNat ++ (if q ≤ l then 46 :: seg A q (l + 1 - q).toNat else [])
theorem seg_len (A : List UInt8) (a : Int) (n : Nat) : (seg A a n).length = n := by simp [seg]
theorem seg_at (A : List UInt8) (a : Int) (n j : Nat) (h : j < n) : (seg A a n)[j]? = some (vd A (a + j)) := by simp [seg, h]
theorem lead_zeros (X : List UInt8) : ∀ (k : Nat) (q : Int), (k : Int) ≤ q → lead (zeros k ++ X) q = lead X (q - k)
  | 0, q, _ => by simp [zeros]
  | k + 1, q, h => by
    have ih := lead_zeros X k (q - 1) (by omega)
    have e : zeros (k + 1) ++ X = 48 :: (zeros k ++ X) := by simp [zeros, List.replicate_succ]
    rw [e, lead, if_pos ⟨by omega, rfl⟩, ih]
    congr 1; omega
theorem lead_stop (b : UInt8) (X : List UInt8) (q : Int) (h : b ≠ 48) : lead (b :: X) q = (b :: X, q) := by rw [lead, if_neg (fun c => h c.2)]
/-- trailing zeros behind a nonzero digit -/
theorem tl_back (P : List UInt8) (e : Int) (hP : ∃ Q b, P = Q ++ [b] ∧ b ≠ 48) (z : Nat) : ∀ k, k ≤ z → tl (P ++ zeros z) e (P.length + k) = P.length + min k (e - P.length).toNat
  | 0, _ => by
    obtain ⟨Q, b, rfl, hb⟩ := hP
    have e1 : (Q ++ [b]).length = Q.length + 1 := by simp
    rw [e1, Nat.add_zero, tl, if_neg]
    · simp
    · intro c
      have e2 : (Q ++ [b] ++ zeros z)[Q.length]? = some b := by simp
      rw [e2] at c
      exact hb (Option.some.inj c.2)
  | k + 1, hk => by
    have ih := tl_back P e hP z k (by omega)
    have e2 : (P ++ zeros z)[P.length + k]? = some 48 := by
      rw [List.getElem?_append_right (by omega), zeros, List.getElem?_replicate, if_pos (by omega)]
    rw [← Nat.add_assoc, tl]
    by_cases h : e < ((P.length + k + 1 : Nat) : Int)
    · rw [if_pos ⟨h, e2⟩, ih]; omega
    · rw [if_neg (fun c => h c.1)]; omega
theorem vd_in (A : List UInt8) (i : Nat) : vd A i = A.getD i 48 := by rw [vd, if_pos (by omega)]; rfl
theorem vd_neg (A : List UInt8) (i : Int) (h : i < 0) : vd A i = 48 := by rw [vd, if_neg (by omega)]
theorem ext_list {X Y : List UInt8} (hl : X.length = Y.length) (h : ∀ j, j < X.length → X[j]? = Y[j]?) : X = Y := by
  apply List.ext_getElem?
  intro j
  rcases Nat.lt_or_ge j X.length with hj | hj
  · exact h j hj
  · rw [List.getElem?_eq_none hj, List.getElem?_eq_none (by omega)]
/-- digits with f zeros ahead, z zeros behind -/
theorem shf_can (M : List UInt8) (f z : Nat) (q : Int) (hne : ∃ b X, M = b :: X ∧ b ≠ 48) (hM : ∃ Q b, M = Q ++ [b] ∧ b ≠ 48) :
    shf (zeros f ++ (M ++ zeros z)) q = can (zeros f ++ (M ++ zeros z)) f (f + M.length - 1) q := by
  obtain ⟨A, hA⟩ : ∃ A, A = zeros f ++ (M ++ zeros z) := ⟨_, rfl⟩
  have hlen : 0 < M.length := by obtain ⟨b, X, rfl, _⟩ := hne; simp
  have hzl : ∀ n, (zeros n).length = n := fun n => by simp [zeros]
  -- the digits of A by place
  have hat : ∀ i : Nat, A.getD i 48 = if f ≤ i ∧ i < f + M.length then M.getD (i - f) 48 else 48 := by
    intro i
    rw [hA]
    simp only [List.getD_eq_getElem?_getD]
    rcases Nat.lt_or_ge i f with h1 | h1
    · rw [List.getElem?_append_left (by rw [hzl]; exact h1), zeros, List.getElem?_replicate, if_pos h1, if_neg (by omega)]; rfl
    · rw [List.getElem?_append_right (by rw [hzl]; exact h1), hzl]
      rcases Nat.lt_or_ge i (f + M.length) with h2 | h2
      · rw [if_pos ⟨h1, h2⟩, List.getElem?_append_left (by omega)]
      · rw [if_neg (by omega), List.getElem?_append_right (by omega), zeros, List.getElem?_replicate]
        split <;> rfl
  rw [← hA]
  rcases Int.lt_or_le q f with hq | hq
  · -- the point ahead of the first nonzero digit
    have hl : lead A q = (zeros (f - q.toNat) ++ (M ++ zeros z), q - q.toNat) := by
      rw [hA, show zeros f = zeros q.toNat ++ zeros (f - q.toNat) by rw [zeros, zeros, zeros, List.replicate_append_replicate]; congr 1; omega, List.append_assoc]
      rcases Int.lt_or_le q 0 with h0 | h0
      · rw [show q.toNat = 0 by omega]
        simp only [zeros, List.replicate_zero, List.nil_append, Nat.sub_zero]
        rw [lead_neg _ _ (by omega)]; simp
      · rw [lead_zeros _ _ _ (by omega), lead_neg _ _ (by omega)]
    obtain ⟨P, hP⟩ : ∃ P, P = zeros (f - q.toNat) ++ M := ⟨_, rfl⟩
    have hPe : ∃ Q b, P = Q ++ [b] ∧ b ≠ 48 := by
      obtain ⟨Q, b, rfl, hb⟩ := hM
      exact ⟨zeros (f - q.toNat) ++ Q, b, by rw [hP, List.append_assoc], hb⟩
    have hPl : P.length = f - q.toNat + M.length := by rw [hP, List.length_append, hzl]
    have ht := tl_back P (q - q.toNat) hPe z z (Nat.le_refl _)
    have hX : zeros (f - q.toNat) ++ (M ++ zeros z) = P ++ zeros z := by rw [hP, List.append_assoc]
    rw [hX] at hl
    have htake : (P ++ zeros z).take (tl (P ++ zeros z) (q - q.toNat) (P ++ zeros z).length) = P := by
      rw [List.length_append, hzl, ht, show P.length + min z (q - q.toNat - P.length).toNat = P.length by omega, List.take_left]
    unfold shf
    simp only [hl, htake]
    rw [if_neg (by omega)]
    unfold can
    have hc : q ≤ (f : Int) + M.length - 1 := by omega
    rw [show (q - (f : Int)).toNat = 0 by omega, if_pos hc]
    have es : seg A f 0 = [] := rfl
    rw [es, List.nil_append]
    rcases Int.lt_or_le q 0 with h0 | h0
    · rw [if_pos (by omega)]
      congr 1
      apply ext_list
      · rw [seg_len, List.length_append, hzl]; omega
      · intro j hj
        rw [seg_at _ _ _ _ (by rw [List.length_append, hzl] at hj; omega)]
        rcases Nat.lt_or_ge j (-(q - q.toNat)).toNat with hj1 | hj1
        · rw [List.getElem?_append_left (by rw [hzl]; exact hj1), zeros, List.getElem?_replicate, if_pos hj1, vd_neg _ _ (by omega)]
        · rw [List.getElem?_append_right (by rw [hzl]; exact hj1), hzl]
          rw [show q + (j : Int) = ((j - (-(q - q.toNat)).toNat : Nat) : Int) by omega, vd_in, hat]
          rw [List.length_append, hzl] at hj
          obtain ⟨i, hi⟩ : ∃ i, i = j - (-(q - q.toNat)).toNat := ⟨_, rfl⟩
          rw [← hi, hP, show f - q.toNat = f by omega]
          rcases Nat.lt_or_ge i f with h1 | h1
          · rw [List.getElem?_append_left (by rw [hzl]; exact h1), zeros, List.getElem?_replicate, if_pos h1, if_neg (by omega)]
          · rw [List.getElem?_append_right (by rw [hzl]; exact h1), hzl, if_pos (by omega), List.getD_eq_getElem?_getD, List.getElem?_eq_getElem (by omega)]; rfl
    · rw [if_neg (by omega), show (q - q.toNat).toNat = 0 by omega, List.take_zero, List.drop_zero, List.nil_append]
      congr 1
      apply ext_list
      · rw [seg_len]; omega
      · intro j hj
        rw [seg_at _ _ _ _ (by omega), show q + (j : Int) = ((q.toNat + j : Nat) : Int) by omega, vd_in, hat, hP]
        rcases Nat.lt_or_ge (q.toNat + j) f with h1 | h1
        · rw [List.getElem?_append_left (by rw [hzl]; omega), zeros, List.getElem?_replicate, if_pos (by omega), if_neg (by omega)]
        · rw [List.getElem?_append_right (by rw [hzl]; omega), hzl, if_pos (by omega), List.getD_eq_getElem?_getD, show q.toNat + j - f = j - (f - q.toNat) by omega, List.getElem?_eq_getElem (by omega)]; rfl
  · -- the point behind the first nonzero digit
    obtain ⟨b, X, hb, hb0⟩ := hne
    have hl : lead A q = (M ++ zeros z, q - f) := by
      rw [hA, lead_zeros _ _ _ hq, hb, List.cons_append, lead_stop _ _ _ hb0]
    have ht := tl_back M (q - f) hM z z (Nat.le_refl _)
    obtain ⟨k, hk⟩ : ∃ k, k = min z (q - f - M.length).toNat := ⟨_, rfl⟩
    have htake : (M ++ zeros z).take (tl (M ++ zeros z) (q - f) (M ++ zeros z).length) = M ++ zeros k := by
      rw [List.length_append, hzl, ht, ← hk, List.take_append, List.take_of_length_le (by omega)]
      congr 1
      rw [zeros, zeros, List.take_replicate]
      congr 1
      omega
    unfold shf
    simp only [hl, htake]
    have hml : (M ++ zeros k).length = M.length + k := by rw [List.length_append, hzl]
    have hgd : ∀ j, j < (q - f).toNat → vd A (f + j) = (M ++ zeros (q - f).toNat).getD j 48 := by
      intro j hj
      rw [show (f : Int) + (j : Int) = ((f + j : Nat) : Int) by omega, vd_in, hat]
      rcases Nat.lt_or_ge j M.length with h1 | h1
      · rw [if_pos (by omega)]
        simp only [List.getD_eq_getElem?_getD]
        rw [List.getElem?_append_left h1, show f + j - f = j by omega]
      · rw [if_neg (by omega)]
        simp only [List.getD_eq_getElem?_getD]
        rw [List.getElem?_append_right h1, zeros, List.getElem?_replicate]
        split <;> rfl
    rcases Int.lt_or_le (q - f) M.length with h1 | h1
    · -- a fraction is left
      have hk0 : k = 0 := by omega
      have hz0 : zeros k = [] := by rw [hk0]; rfl
      simp only [hz0, List.append_nil]
      rw [if_neg (by omega), if_neg (by omega)]
      unfold can
      rw [if_pos (by omega)]
      congr 1
      · apply ext_list
        · rw [seg_len, List.length_take]; omega
        · intro j hj
          rw [List.length_take] at hj
          rw [seg_at _ _ _ _ (by omega), hgd _ (by omega), List.getElem?_take_of_lt (by omega), List.getD_eq_getElem?_getD, List.getElem?_append_left (by omega), List.getElem?_eq_getElem (by omega)]; rfl
      · congr 1
        apply ext_list
        · rw [seg_len, List.length_drop]; omega
        · intro j hj
          rw [List.length_drop] at hj
          rw [seg_at _ _ _ _ (by omega), show q + (j : Int) = ((q.toNat + j : Nat) : Int) by omega, vd_in, hat, if_pos (by omega), List.getElem?_drop, List.getD_eq_getElem?_getD, show q.toNat + j - f = (q - f).toNat + j by omega, List.getElem?_eq_getElem (by omega)]; rfl
    · rw [if_pos (by omega)]
      unfold can
      rw [if_neg (by omega), List.append_nil, List.append_assoc]
      have ez : zeros k ++ zeros (q - f - ((M ++ zeros k).length : Int)).toNat = zeros ((q - f).toNat - M.length) := by
        rw [hml, zeros, zeros, zeros, List.replicate_append_replicate]; congr 1; omega
      rw [ez]
      apply ext_list
      · rw [seg_len, List.length_append, hzl]; omega
      · intro j hj
        rw [List.length_append, hzl] at hj
        rw [seg_at _ _ _ _ (by omega), hgd _ (by omega), List.getD_eq_getElem?_getD]
        rcases Nat.lt_or_ge j M.length with h2 | h2
        · rw [List.getElem?_append_left h2, List.getElem?_append_left h2, List.getElem?_eq_getElem h2]; rfl
        · rw [List.getElem?_append_right h2, List.getElem?_append_right h2, zeros, zeros, List.getElem?_replicate, List.getElem?_replicate, if_pos (by omega), if_pos (by omega)]; rfl
end Go.Proofs.YtfhkkpfkkhpohaaFmt.Sd
