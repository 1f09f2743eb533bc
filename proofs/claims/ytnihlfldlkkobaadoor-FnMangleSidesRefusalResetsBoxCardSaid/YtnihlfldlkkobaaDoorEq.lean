/-
  Tokens without children, compared but for their whitespace.
-/
import Derived.Test.YtnihlfldlkkobaaDoorRows
import Derived.WalkKit
import Derived.ProofKit
import Derived.OpenShut
import Derived.Below
import Derived.Lib.Hide
import Derived.Outline
import Derived.WalkLawsBesides
import Derived.WalkSpells
import Derived.WalkSmall
namespace Go.Proofs.YtnihlfldlkkobaaDoor.Quad
open Go.ChangeShapes Go.WideShapes Go.ChangeAt Go.RowKit
set_option linter.unusedVariables false
/-- a token without children -/
abbrev tk (t : ByteArray) (l p u k s : Int) : Value := .agg #[.pointer none, .string t, .int .i32 l, .int .u32 p, .int .u16 u, .int .u8 k, .int .u8 s]
def eqT (t1 : ByteArray) (p1 k1 : Int) (t2 : ByteArray) (p2 k2 : Int) : Bool := decide (k1 = k2 ∧ t1.toList = t2.toList ∧ p1 = p2)
set_option maxRecDepth 100000 in
set_option maxHeartbeats 1000000 in
theorem eqt_yes (t t' : ByteArray) (ht : t.toList = t'.toList) (l1 l2 p u1 u2 k s1 s2 : Int) (w : World) :
    Calls Tryd.prog 32 #[.agg #[.pointer none, .string t, .int .i32 l1, .int .u32 p, .int .u16 u1, .int .u8 k, .int .u8 s1], .agg #[.pointer none, .string t', .int .i32 l2, .int .u32 p, .int .u16 u2, .int .u8 k, .int .u8 s2]] w fun e w' => e = .returned (.bool true) ∧ Below w.heap.size w w' := by
  go_enter Tryd.func32, Tryd.ntmps32
  go_wp2
  go_ret
  exact ⟨rfl, ((Below.refl _ _).alloc (Nat.le_refl _) _).alloc (by simp) _⟩
set_option maxRecDepth 100000 in
set_option maxHeartbeats 1000000 in
theorem eqt_no (t1 t2 : ByteArray) (l1 l2 p1 p2 u1 u2 k1 k2 s1 s2 : Int) (w : World) (h : ¬ (k1 = k2 ∧ t1.toList = t2.toList ∧ p1 = p2)) :
    Calls Tryd.prog 32 #[.agg #[.pointer none, .string t1, .int .i32 l1, .int .u32 p1, .int .u16 u1, .int .u8 k1, .int .u8 s1], .agg #[.pointer none, .string t2, .int .i32 l2, .int .u32 p2, .int .u16 u2, .int .u8 k2, .int .u8 s2]] w fun e w' => e = .returned (.bool false) ∧ Below w.heap.size w w' := by
  by_cases hk : k1 = k2
  · subst hk
    by_cases ht : t1.toList = t2.toList
    · have hp : (p1 == p2) = false := by simp; intro e; exact h ⟨rfl, ht, e⟩
      clear h
      go_enter Tryd.func32, Tryd.ntmps32
      go_wp2
      go_ret
      exact ⟨rfl, ((Below.refl _ _).alloc (Nat.le_refl _) _).alloc (by simp) _⟩
    · clear h
      go_enter Tryd.func32, Tryd.ntmps32
      go_wp2
      go_ret
      exact ⟨rfl, ((Below.refl _ _).alloc (Nat.le_refl _) _).alloc (by simp) _⟩
  · have hk2 : (k1 == k2) = false := by simpa using hk
    clear h hk
    go_enter Tryd.func32, Tryd.ntmps32
    go_wp2
    go_ret
    exact ⟨rfl, ((Below.refl _ _).alloc (Nat.le_refl _) _).alloc (by simp) _⟩
theorem eqt_any (t1 t2 : ByteArray) (l1 l2 p1 p2 u1 u2 k1 k2 s1 s2 : Int) (w : World) :
    Calls Tryd.prog 32 #[.agg #[.pointer none, .string t1, .int .i32 l1, .int .u32 p1, .int .u16 u1, .int .u8 k1, .int .u8 s1], .agg #[.pointer none, .string t2, .int .i32 l2, .int .u32 p2, .int .u16 u2, .int .u8 k2, .int .u8 s2]] w fun e w' => e = .returned (.bool (eqT t1 p1 k1 t2 p2 k2)) ∧ Below w.heap.size w w' := by
  unfold eqT
  by_cases h : k1 = k2 ∧ t1.toList = t2.toList ∧ p1 = p2
  · rw [decide_eq_true h]
    obtain ⟨rfl, ht, rfl⟩ := h
    exact eqt_yes t1 t2 ht l1 l2 p1 u1 u2 k1 s1 s2 w
  · rw [decide_eq_false h]
    exact eqt_no t1 t2 l1 l2 p1 p2 u1 u2 k1 k2 s1 s2 w h
end Go.Proofs.YtnihlfldlkkobaaDoor.Quad
