/-
  Flattening.
-/
import Derived.Test.YtbpnmiedomchpaaFq
namespace Go.Proofs.Ytbpnmiedomchpaa.Fg
open Go.ChangeShapes Go.WideShapes Go.ChangeAt Go.RowKit Rg
set_option linter.unusedVariables false
set_option linter.unusedSimpArgs false
def tU : Su → Nat
  | .bare _ => 1
  | .wrap _ Ms => 2 + (Ms.map (·.length)).sum
def tC (c : Cp Su) : Nat := 1 + (c.subs.map tU).sum
/-- an inner compound that may come to the top -/
def IOK (Q : Su → Prop) (c : Cp ByteArray) : Prop := c.subs.length ≤ 1048576 ∧ c.nest ≤ 1048576 ∧ (∀ n ∈ c.subs, lgN n = false ∧ Q (.bare n)) ∧ ∀ t, c.tp = some t → Q (.wrap 2 [[⟨some t, [], 0, 0, false⟩]])
def SOK (Q : Su → Prop) (s : Su) : Prop := match s with
  | .bare _ => True
  | .wrap k Ms => (k = 0 ∨ k = 3) → ∀ M0, Ms = [M0] → M0 ≠ [] ∧ ∀ c ∈ M0, IOK Q c
structure MOK (Q : Su → Prop) (M : List (Cp Su)) : Prop where
  len : M.length ≤ 1048576
  wt : (M.map tC).sum ≤ 4194304
  sub : ∀ c ∈ M, c.subs.length ≤ 1048576 ∧ c.nest ≤ 1048576 ∧ ∀ s ∈ c.subs, Q s ∧ SOK Q s
/-- an inner compound at the top -/
def upC (c : Cp ByteArray) : Cp Su := ⟨c.tp, c.subs.map Su.bare, c.nest, c.cb, c.we⟩
theorem upC.ok {Q : Su → Prop} {c : Cp ByteArray} (h : IOK Q c) : OKC Q (upC c) := by
  refine ⟨?_, fun s hs => ?_, h.2.1⟩
  · unfold lgC upC
    rw [List.any_eq_false]
    intro s hs
    obtain ⟨n, hn, rfl⟩ := List.mem_map.1 hs
    have := (h.2.2.1 n hn).1
    show ¬ lgN n = true
    rw [this]; simp
  · obtain ⟨n, hn, rfl⟩ := List.mem_map.1 hs
    exact (h.2.2.1 n hn).2
theorem mg_ok {Q : Su → Prop} {c : Cp Su} {c2 : Cp ByteArray} (h : OKC Q c) (h2 : IOK Q c2) : OKC Q (mg c c2) := by
  have hu := upC.ok h2
  have hs : (mgS c c2).any lgU = false ∧ ∀ s ∈ mgS c c2, Q s := by
    unfold mgS
    cases c.tp with
    | none => exact ⟨rfl, fun s hs => (by cases hs)⟩
    | some t1 =>
      cases h3 : c2.tp with
      | none => exact ⟨rfl, fun s hs => (by cases hs)⟩
      | some t => exact ⟨rfl, fun s hs => by rw [List.mem_singleton.1 hs]; exact h2.2.2.2 t h3⟩
  refine ⟨?_, fun s q => ?_, ?_⟩
  · have h1 := h.1
    unfold lgC at h1 ⊢
    show ((c.subs ++ mgS c c2) ++ c2.subs.map Su.bare).any lgU = false
    rw [List.any_append, List.any_append, h1, hs.1]
    exact hu.1
  · have q' : s ∈ (c.subs ++ mgS c c2) ++ c2.subs.map Su.bare := q
    rcases List.mem_append.1 q' with q | q
    · rcases List.mem_append.1 q with q | q
      · exact h.2.1 s q
      · exact hs.2 s q
    · exact hu.2.1 s q
  · show (if 0 < c2.nest ∧ c.nest = 0 then c2.nest else c.nest) ≤ 1048576
    split
    · exact h2.2.1
    · exact h.2.2
theorem mg_len (c : Cp Su) (c2 : Cp ByteArray) : (mg c c2).subs.length ≤ c.subs.length + 1 + c2.subs.length := by
  show ((c.subs ++ mgS c c2) ++ c2.subs.map Su.bare).length ≤ _
  have : (mgS c c2).length ≤ 1 := by
    unfold mgS
    cases c.tp <;> cases c2.tp <;> simp
  simp only [List.length_append, List.length_map]
  omega
/-- what the rows under way amount to -/
def LB (M : List (Cp Su)) (k : Nat) (S : List Su) (j : Nat) : Nat := ((M.take k).map tC).sum + ((S.take j).map tU).sum
theorem LB.more {M : List (Cp Su)} {k : Nat} {S : List Su} {j : Nat} (hj : j < S.length) : LB M k S (j + 1) = LB M k S j + tU S[j] := by
  unfold LB
  rw [sum_take tU S j hj, Nat.add_assoc]
theorem LB.row {M : List (Cp Su)} {k : Nat} (hk : k < M.length) : LB M k M[k].subs M[k].subs.length + 1 = LB M (k + 1) [] 0 := by
  unfold LB
  rw [sum_take tC M k hk, List.take_of_length_le (Nat.le_refl _)]
  unfold tC
  simp
  omega
theorem LB.le {M : List (Cp Su)} (h : (M.map tC).sum ≤ 4194304) {k j : Nat} (hk : k < M.length) : LB M k M[k].subs j ≤ 4194304 := by
  have h1 := LB.row hk
  have h2 : LB M k M[k].subs j ≤ LB M k M[k].subs M[k].subs.length := by
    unfold LB
    have := sum_le tU M[k].subs j
    rw [List.take_of_length_le (Nat.le_refl M[k].subs.length)]
    omega
  have h3 : LB M (k + 1) [] 0 ≤ (M.map tC).sum := by
    unfold LB
    have := sum_le tC M (k + 1)
    simpa using this
  omega
end Go.Proofs.Ytbpnmiedomchpaa.Fg
