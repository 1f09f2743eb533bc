/-
  The model of dead rules: what is built out of the five lists of bytes, its key, what is dead, what is kept.
-/
import Derived.Test.YthokeojpmbdbmaaSl
namespace Go.Proofs.Ythokeojpmbdbmaa.Dr
open Go.ChangeShapes Go.WideShapes Go.ChangeAt Go.RowKit Rg
set_option linter.unusedVariables false
/-- what is given, with noughts behind the lists' ends -/
structure Gv where
  S : Nat → Nat
  T : Nat → Nat
  K : Nat → Nat
  C : Nat → Nat
  R : Nat → Nat
abbrev Cp := List Nat
abbrev Cx := List Cp
abbrev Md := List Cx
structure St where
  c : Nat
  p : Nat
  j : Nat
section
variable (g : Gv)
def sk (j : Nat) : Nat := if g.T j % 3 = 0 then 0 else g.T j % 3 * 256 + g.K j
def ccn (j n : Nat) : Cp := (List.range n).map fun q => sk g (j + q)
def cc (p j : Nat) : Cp := ccn g j (g.S p % 4)
def jq (p j : Nat) : Nat → Nat
  | 0 => j
  | q + 1 => jq p j q + g.S (p + q) % 4
def cxn (p j n : Nat) : Cx := (List.range n).map fun q => cc g (p + q) (jq g p j q)
def cx (s : St) : Cx := cxn g s.p s.j (g.C s.c % 4)
def nx (s : St) : St := ⟨s.c + 1, s.p + g.C s.c % 4, jq g s.p s.j (g.C s.c % 4)⟩
def it (s : St) : Nat → St
  | 0 => s
  | q + 1 => nx g (it s q)
def mdn (s : St) (n : Nat) : Md := (List.range n).map fun q => cx g (it g s q)
def sr : Nat → St
  | 0 => ⟨0, 0, 0⟩
  | r + 1 => it g (sr r) (g.R r % 4)
def md (r : Nat) : Md := mdn g (sr g r) (g.R r % 4)
end
theorem ccn_succ (g : Gv) (j n : Nat) : ccn g j (n + 1) = ccn g j n ++ [sk g (j + n)] := by simp [ccn, List.range_succ]
theorem cxn_succ (g : Gv) (p j n : Nat) : cxn g p j (n + 1) = cxn g p j n ++ [cc g (p + n) (jq g p j n)] := by simp [cxn, List.range_succ]
theorem mdn_succ (g : Gv) (s : St) (n : Nat) : mdn g s (n + 1) = mdn g s n ++ [cx g (it g s n)] := by simp [mdn, List.range_succ]
theorem jq_le (g : Gv) (p j : Nat) : ∀ q, jq g p j q ≤ j + 3 * q
  | 0 => by simp [jq]
  | q + 1 => by
    have := jq_le g p j q
    have h : g.S (p + q) % 4 < 4 := Nat.mod_lt _ (by omega)
    rw [jq]
    omega
theorem nx_le (g : Gv) (s : St) : (nx g s).c = s.c + 1 ∧ (nx g s).p ≤ s.p + 3 ∧ (nx g s).j ≤ s.j + 9 := by
  have h : g.C s.c % 4 < 4 := Nat.mod_lt _ (by omega)
  have h2 := jq_le g s.p s.j (g.C s.c % 4)
  refine ⟨rfl, ?_, ?_⟩
  · show s.p + g.C s.c % 4 ≤ _
    omega
  · show jq g s.p s.j (g.C s.c % 4) ≤ _
    omega
theorem it_le (g : Gv) (s : St) : ∀ q, (it g s q).c = s.c + q ∧ (it g s q).p ≤ s.p + 3 * q ∧ (it g s q).j ≤ s.j + 9 * q
  | 0 => by simp [it]
  | q + 1 => by
    have h1 := it_le g s q
    have h2 := nx_le g (it g s q)
    rw [it]
    omega
theorem sr_le (g : Gv) : ∀ r, (sr g r).c ≤ 3 * r ∧ (sr g r).p ≤ 9 * r ∧ (sr g r).j ≤ 27 * r
  | 0 => by simp [sr]
  | r + 1 => by
    have h1 := sr_le g r
    have h : g.R r % 4 < 4 := Nat.mod_lt _ (by omega)
    have h2 := it_le g (sr g r) (g.R r % 4)
    rw [sr]
    omega
/-! keys -/
def kC (a : Cp) : List Nat := a.length :: a
def kX (a : Cx) : List Nat := a.length :: a.flatMap kC
def kR (a : Md) : List Nat := a.length :: a.flatMap kX
def Pf {α : Type} (f : α → List Nat) : Prop := ∀ a b s t, f a ++ s = f b ++ t → a = b ∧ s = t
theorem pf_flat {α : Type} {f : α → List Nat} (h : Pf f) : ∀ (L L' : List α) (s t : List Nat), L.length = L'.length → L.flatMap f ++ s = L'.flatMap f ++ t → L = L' ∧ s = t
  | [], [], s, t, _, e => ⟨rfl, by simpa using e⟩
  | [], _ :: _, _, _, e, _ => by simp at e
  | _ :: _, [], _, _, e, _ => by simp at e
  | a :: L, b :: L', s, t, hl, e => by
    rw [List.flatMap_cons, List.flatMap_cons, List.append_assoc, List.append_assoc] at e
    obtain ⟨rfl, e2⟩ := h a b _ _ e
    obtain ⟨rfl, e3⟩ := pf_flat h L L' s t (by simpa using hl) e2
    exact ⟨rfl, e3⟩
theorem pf_list {α : Type} {f : α → List Nat} (h : Pf f) : Pf (fun L : List α => L.length :: L.flatMap f) := fun a b s t e => by
  simp only [List.cons_append, List.cons.injEq] at e
  exact pf_flat h a b s t e.1 e.2
theorem pf_one : Pf (fun n : Nat => [n]) := fun a b s t e => by simpa using e
theorem kC_eq (a : Cp) : kC a = a.length :: a.flatMap (fun n => [n]) := by simp [kC]
theorem pf_C : Pf kC := fun a b s t e => by
  rw [kC_eq, kC_eq] at e
  exact pf_list pf_one a b s t e
theorem pf_X : Pf kX := pf_list pf_C
theorem pf_R : Pf kR := pf_list pf_X
theorem kR_inj {a b : Md} (h : kR a = kR b) : a = b := (pf_R a b [] [] (by simpa using h)).1
/-! what is dead -/
def dS (c : Nat) : Bool := c == 258 || c == 265
def dC (a : Cp) : Bool := a.any dS
def dX (a : Cx) : Bool := a.any dC
def dR (a : Md) : Bool := a.all dX
/-- rule r of n is kept: it lives, and no living rule behind it is the same -/
def Kp (n : Nat) (m : Nat → Md) (r : Nat) : Prop := dR (m r) = false ∧ ∀ r2, r < r2 → r2 < n → dR (m r2) = false → m r ≠ m r2
def kpB (n : Nat) (m : Nat → Md) (r : Nat) : Bool := !dR (m r) && (List.range n).all fun r2 => !(decide (r < r2) && (!dR (m r2) && decide (m r = m r2)))
theorem kpB_iff (n : Nat) (m : Nat → Md) (r : Nat) : kpB n m r = true ↔ Kp n m r := by
  unfold kpB Kp
  simp only [Bool.and_eq_true, Bool.not_eq_true', List.all_eq_true, List.mem_range, Bool.and_eq_false_iff, decide_eq_false_iff_not, Bool.not_eq_false']
  constructor
  · rintro ⟨h1, h2⟩
    refine ⟨h1, fun r2 a b c e => ?_⟩
    rcases h2 r2 b with h | h | h
    · exact h a
    · rw [c] at h; cases h
    · exact h e
  · rintro ⟨h1, h2⟩
    refine ⟨h1, fun r2 b => ?_⟩
    by_cases a : r < r2
    · cases c : dR (m r2) with
      | true => exact .inr (.inl rfl)
      | false => exact .inr (.inr (h2 r2 a b c))
    · exact .inl a
/-- the kept ones from i on, in order -/
def kl (n : Nat) (m : Nat → Md) (i : Nat) : List Nat := ((List.range n).drop i).filter (kpB n m)
theorem drop_range {n i : Nat} (h : i < n) : (List.range n).drop i = i :: (List.range n).drop (i + 1) := by
  rw [List.drop_eq_getElem_cons (by simpa using h)]
  simp
theorem kl_step {n : Nat} {m : Nat → Md} {i : Nat} (h : i < n) : kl n m i = (if kpB n m i then [i] else []) ++ kl n m (i + 1) := by
  unfold kl
  rw [drop_range h, List.filter_cons]
  by_cases hk : kpB n m i <;> simp [hk]
theorem kl_mem {n : Nat} {m : Nat → Md} {i r : Nat} : r ∈ kl n m i ↔ i ≤ r ∧ r < n ∧ Kp n m r := by
  unfold kl
  rw [List.mem_filter, List.mem_drop_iff_getElem]
  constructor
  · rintro ⟨⟨j, hj, e⟩, hk⟩
    simp at hj e
    exact ⟨by omega, by omega, (kpB_iff n m r).1 hk⟩
  · rintro ⟨h1, h2, h3⟩
    exact ⟨⟨r - i, by simp; omega, by simp; omega⟩, (kpB_iff n m r).2 h3⟩
theorem kl_end (n : Nat) (m : Nat → Md) : kl n m n = [] := by unfold kl; rw [List.drop_eq_nil_of_le (by simp)]; rfl
theorem kl_len (n : Nat) (m : Nat → Md) (i : Nat) : (kl n m i).length ≤ n - i := by
  unfold kl
  refine Nat.le_trans (List.length_filter_le _ _) ?_
  simp
/-- the search among the kept ones is the search among the living ones -/
theorem kp_iff {n : Nat} {m : Nat → Md} {i : Nat} (h : i < n) : Kp n m i ↔ dR (m i) = false ∧ ∀ r ∈ kl n m (i + 1), m r ≠ m i := by
  constructor
  · rintro ⟨h1, h2⟩
    refine ⟨h1, fun r hr e => ?_⟩
    obtain ⟨a, b, c⟩ := kl_mem.1 hr
    exact h2 r (by omega) b c.1 e.symm
  · rintro ⟨h1, h2⟩
    refine ⟨h1, fun r2 hlt hn hd e => ?_⟩
    -- the last one that is the same
    have key : ∀ d r, n - r ≤ d → i < r → r < n → dR (m r) = false → m i = m r → ∃ r', i < r' ∧ r' < n ∧ Kp n m r' ∧ m i = m r' := by
      intro d
      induction d with
      | zero => intro r h3 h4 h5; omega
      | succ d ih =>
        intro r h3 h4 h5 h6 h7
        by_cases hk : Kp n m r
        · exact ⟨r, h4, h5, hk, h7⟩
        · have : ∃ r2, r < r2 ∧ r2 < n ∧ dR (m r2) = false ∧ m r = m r2 := by
            refine Classical.byContradiction fun hc => hk ⟨h6, fun r2 a b c e => hc ⟨r2, a, b, c, e⟩⟩
          obtain ⟨r2, a, b, c, e⟩ := this
          exact ih r2 (by omega) (by omega) b c (h7.trans e)
    obtain ⟨r', a, b, c, e'⟩ := key n r2 (by omega) hlt hn hd e
    exact h2 r' (kl_mem.2 ⟨a, b, c⟩) e'.symm
end Go.Proofs.Ythokeojpmbdbmaa.Dr
