/-
  The parser's counts and names of symbols.
-/
import Derived.Test.YtkphnplmjpjbjaaDoorEn
namespace Go.Proofs.YtkphnplmjpjbjaaDoor.Sy
open Go.ChangeShapes Go.WideShapes Go.ChangeAt Go.RowKit Rg
set_option linter.unusedVariables false
theorem PS.slice {w : World} {X : Nat → Prop} {p : Nat} {ml : Bool} {S : SY} (h : PS w X p ml S) : ∃ a c, w.cell? ⟨p, 21, none⟩ = some (.slice a S.length c) := by
  obtain ⟨v, v2, m1, m2, hp, hX⟩ := h
  obtain ⟨va, vc, rfl⟩ : ∃ a c, v = .slice a S.length c := by
    rcases hp.syms.2 with ⟨e, e0⟩ | ⟨g, cap, cur, e, _⟩
    · exact ⟨none, 0, by rw [e, e0]⟩
    · exact ⟨_, _, e⟩
  exact ⟨va, vc, hp.c21⟩
theorem PS.slice2 {w : World} {X : Nat → Prop} {p : Nat} {ml : Bool} {S : SY} (h : PS w X p ml S) : ∃ a c, w.cell? ⟨p, 23, none⟩ = some (.slice a (if ml then S.length else 0) c) := by
  obtain ⟨v, v2, m1, m2, hp, hX⟩ := h
  obtain ⟨va, vc, rfl⟩ : ∃ a c, v2 = .slice a (if ml then S.length else 0) c := by
    rcases hp.locs.2 with ⟨e, e0⟩ | ⟨g, cap, cur, e, _⟩
    · exact ⟨none, 0, by rw [e, e0]⟩
    · exact ⟨_, _, e⟩
  exact ⟨va, vc, hp.c23⟩
theorem PS.use {w : World} {X : Nat → Prop} {p : Nat} {ml : Bool} {S : SY} (h : PS w X p ml S) {i : Nat} (hi : i < S.length) : ∃ g cap, w.cell? ⟨p, 21, none⟩ = some (.slice (some ⟨g, 0, none⟩) S.length cap) ∧ w.cell? ⟨g, i * 10 + 4, none⟩ = some (.int .u32 (S.getD i (⟨#[]⟩, 0)).2) ∧
    w.cell? ⟨g, i * 10 + 1, none⟩ = some (.string (S.getD i (⟨#[]⟩, 0)).1) ∧ w.cell? ⟨g, i * 10 + 8, none⟩ = some (.int .u8 (kdv ml)) := by
  obtain ⟨v, v2, m1, m2, hp, hX⟩ := h
  obtain ⟨g, cap, rfl, c1, c2, c3, -, -⟩ := hp.use hi
  exact ⟨g, cap, hp.c21, c1, c2, c3⟩
set_option maxRecDepth 100000 in
set_option maxHeartbeats 1000000 in
theorem cnt_any {X : Nat → Prop} (p : Nat) (ml : Bool) (S : SY) (w : World) (h : PS w X p ml S) :
    Calls Tryd.prog 10 #[.pointer (some ⟨p, 0, none⟩)] w fun e w' => e = .returned (.int .i64 (S.length : Int)) ∧ w = w' := by
  obtain ⟨a, c, hc⟩ := h.slice
  clear h
  go_enter Tryd.func10, Tryd.ntmps10
  go_wp2_with fail
  all_goals go_ret
  all_goals first | exact ⟨rfl, rfl⟩ | (refine ⟨?_, rfl⟩; simp)
set_option maxRecDepth 100000 in
set_option maxHeartbeats 1000000 in
theorem cnt2_any {X : Nat → Prop} (p : Nat) (ml : Bool) (S : SY) (w : World) (h : PS w X p ml S) :
    Calls Tryd.prog 17 #[.pointer (some ⟨p, 0, none⟩)] w fun e w' => e = .returned (.int .i64 ((if ml then S.length else 0 : Nat) : Int)) ∧ w = w' := by
  obtain ⟨a, c, hc⟩ := h.slice2
  clear h
  go_enter Tryd.func17, Tryd.ntmps17
  go_wp2_with fail
  all_goals go_ret
  all_goals first | exact ⟨rfl, rfl⟩ | (refine ⟨?_, rfl⟩; simp)
set_option maxRecDepth 100000 in
set_option maxHeartbeats 1000000 in
theorem name_any {X : Nat → Prop} (p i : Nat) (ml : Bool) (S : SY) (w : World) (h : PS w X p ml S) (hi : i < S.length) :
    Calls Tryd.prog 11 #[.pointer (some ⟨p, 0, none⟩), .int .i64 (i : Int)] w fun e w' => e = .returned (.string (S.getD i (⟨#[]⟩, 0)).1) ∧ w = w' := by
  obtain ⟨g, cap, hc, c1, c2, c3⟩ := h.use hi
  clear h
  have q0 : (0 : Int) ≤ i := by omega
  have q1 : (i : Int) < S.length := by omega
  go_enter Tryd.func11, Tryd.ntmps11
  go_wp2_with fail
  all_goals go_ret
  all_goals first | exact ⟨rfl, rfl⟩ | exact ⟨by rw [List.getD_eq_getElem?_getD, List.getElem?_eq_getElem hi]; rfl, rfl⟩
set_option maxRecDepth 100000 in
set_option maxHeartbeats 1000000 in
theorem uses_any {X : Nat → Prop} (p i : Nat) (ml : Bool) (S : SY) (w : World) (h : PS w X p ml S) (hi : i < S.length) :
    Calls Tryd.prog 12 #[.pointer (some ⟨p, 0, none⟩), .int .i64 (i : Int)] w fun e w' => e = .returned (.int .u32 (S.getD i (⟨#[]⟩, 0)).2) ∧ w = w' := by
  obtain ⟨g, cap, hc, c1, c2, c3⟩ := h.use hi
  clear h
  have q0 : (0 : Int) ≤ i := by omega
  have q1 : (i : Int) < S.length := by omega
  go_enter Tryd.func12, Tryd.ntmps12
  go_wp2_with fail
  all_goals go_ret
  all_goals first | exact ⟨rfl, rfl⟩ | exact ⟨by rw [List.getD_eq_getElem?_getD, List.getElem?_eq_getElem hi]; rfl, rfl⟩
end Go.Proofs.YtkphnplmjpjbjaaDoor.Sy
