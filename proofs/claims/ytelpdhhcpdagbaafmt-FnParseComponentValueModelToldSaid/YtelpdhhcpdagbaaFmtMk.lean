/-
  The machine with an explicit stack of closers over classes of tokens; what the small functions answer.
-/
import Derived.Test.YtelpdhhcpdagbaaFmtSl
namespace Go.Proofs.YtelpdhhcpdagbaaFmt.Av
open Go.ChangeShapes Go.WideShapes Go.ChangeAt Go.RowKit Rg
set_option linter.unusedVariables false
/-- the kind at place i of n tokens (0: the end) -/
def kat (n : Nat) (K : Nat → Int) (i : Nat) : Int := if i < n then K i else 0
def kid (k : Int) : Int := if k = 2 ∨ k = 13 then 1 else k
def cl (k : Int) : Int := if k = 5 ∨ k = 6 then 7 else if k = 8 then 9 else if k = 10 then 11 else -1
def kd (k : Int) : Int := if k = 0 then 38 else if k = 1 then 29 else if k = 2 then 29 else if k = 3 then 9 else if k = 4 then 35 else if k = 5 then 27 else if k = 6 then 33 else if k = 7 then 8 else if k = 8 then 32 else if k = 9 then 7 else if k = 10 then 31 else if k = 11 then 6 else if k = 12 then 10 else if k = 13 then 29 else if k = 14 then 19 else 0
def tx (k : Int) : ByteArray := if k = 0 then ⟨#[32]⟩ else if k = 1 then ⟨#[99, 111, 108, 111, 114]⟩ else if k = 2 then ⟨#[45, 45, 97]⟩ else if k = 3 then ⟨#[58]⟩ else if k = 4 then ⟨#[59]⟩ else if k = 5 then ⟨#[102, 40]⟩ else if k = 6 then ⟨#[40]⟩ else if k = 7 then ⟨#[41]⟩ else if k = 8 then ⟨#[91]⟩ else if k = 9 then ⟨#[93]⟩ else if k = 10 then ⟨#[123]⟩ else if k = 11 then ⟨#[125]⟩ else if k = 12 then ⟨#[44]⟩ else if k = 13 then ⟨#[105, 109, 112, 111, 114, 116, 97, 110, 116]⟩ else if k = 14 then ⟨#[33]⟩ else ⟨#[]⟩
/-- the end of a group: the stack of closers is emptied -/
def run (n : Nat) (Q : Nat → Int) : Nat → List Int → Nat → Option Nat
  | _, [], j => some j
  | 0, _ :: _, _ => none
  | f + 1, w :: S, j =>
    if kid (Q j) = w then run n Q f S (j + 1)
    else if 0 ≤ cl (kid (Q j)) then run n Q f (cl (kid (Q j)) :: w :: S) (j + 1)
    else run n Q f (w :: S) (j + 1)
def M (n : Nat) (Q : Nat → Int) (st : List Int) (j : Nat) : Option Nat := run n Q (n - j) st j
section
variable {n : Nat} {Q : Nat → Int} {S : List Int} {w : Int} {j : Nat}
theorem M_nil : M n Q [] j = some j := by unfold M; cases n - j <;> rfl
theorem M_end (h : n ≤ j) : M n Q (w :: S) j = none := by unfold M; rw [show n - j = 0 by omega]; rfl
theorem fuel (h : j < n) : n - j = (n - (j + 1)) + 1 := by omega
theorem M_pop (h : j < n) (hk : kid (Q j) = w) : M n Q (w :: S) j = M n Q S (j + 1) := by unfold M; rw [fuel h, run, if_pos hk]
theorem M_open (h : j < n) (hk : kid (Q j) ≠ w) (hc : 0 ≤ cl (kid (Q j))) : M n Q (w :: S) j = M n Q (cl (kid (Q j)) :: w :: S) (j + 1) := by
  unfold M; rw [fuel h, run, if_neg hk, if_pos hc]
theorem M_other (h : j < n) (hk : kid (Q j) ≠ w) (hc : ¬ 0 ≤ cl (kid (Q j))) : M n Q (w :: S) j = M n Q (w :: S) (j + 1) := by
  unfold M; rw [fuel h, run, if_neg hk, if_neg hc]
end
theorem cls_cases {k : Int} (h : 0 ≤ k ∧ k ≤ 14) : k = 0 ∨ k = 1 ∨ k = 2 ∨ k = 3 ∨ k = 4 ∨ k = 5 ∨ k = 6 ∨ k = 7 ∨ k = 8 ∨ k = 9 ∨ k = 10 ∨ k = 11 ∨ k = 12 ∨ k = 13 ∨ k = 14 := by omega
theorem cl_kid {k : Int} (h : 0 ≤ k ∧ k ≤ 14) : cl (kid k) = cl k := by
  rcases cls_cases h with rfl | rfl | rfl | rfl | rfl | rfl | rfl | rfl | rfl | rfl | rfl | rfl | rfl | rfl | rfl <;> decide
theorem kid_range {k : Int} (h : 0 ≤ k ∧ k ≤ 14) : 0 ≤ kid k ∧ kid k ≤ 14 := by
  rcases cls_cases h with rfl | rfl | rfl | rfl | rfl | rfl | rfl | rfl | rfl | rfl | rfl | rfl | rfl | rfl | rfl <;> decide
theorem cl_range {k : Int} (h : 0 ≤ k ∧ k ≤ 14) (hc : 0 ≤ cl k) : cl k = 7 ∨ cl k = 9 ∨ cl k = 11 := by
  rcases cls_cases h with rfl | rfl | rfl | rfl | rfl | rfl | rfl | rfl | rfl | rfl | rfl | rfl | rfl | rfl | rfl <;> revert hc <;> decide
theorem kd_eq {k w : Int} (h : 0 ≤ k ∧ k ≤ 14) (hw : w = 7 ∨ w = 9 ∨ w = 11) : (kd w == kd k) = decide (kid k = w) := by
  rcases hw with rfl | rfl | rfl <;> rcases cls_cases h with rfl | rfl | rfl | rfl | rfl | rfl | rfl | rfl | rfl | rfl | rfl | rfl | rfl | rfl | rfl <;> decide
theorem kd_pos {k : Int} (h : 0 ≤ k ∧ k ≤ 14) : kd k ≠ 0 := by
  rcases cls_cases h with rfl | rfl | rfl | rfl | rfl | rfl | rfl | rfl | rfl | rfl | rfl | rfl | rfl | rfl | rfl <;> decide
theorem tx_size {k : Int} (h : 0 ≤ k ∧ k ≤ 14) : (tx k).size ≤ 9 := by
  rcases cls_cases h with rfl | rfl | rfl | rfl | rfl | rfl | rfl | rfl | rfl | rfl | rfl | rfl | rfl | rfl | rfl <;> decide
def RetP (v : Value) (w : World) (e : Ending) (w' : World) : Prop := e = .returned v ∧ w = w'
set_option maxRecDepth 100000 in
theorem cls_any (z : Int) (h : 0 ≤ z ∧ z ≤ 255) (w : World) : Calls Tryf.prog 10 #[.int .u8 z] w (RetP (.int .i64 (z % 15)) w) := by
  obtain ⟨h0, h1⟩ := h
  go_enter Tryf.func10, Tryf.ntmps10
  go_wp2
  go_ret
  exact ⟨by first | rfl | (simp; omega), rfl⟩
set_option maxRecDepth 100000 in
set_option maxHeartbeats 4000000 in
theorem kid_any (k : Int) (h : 0 ≤ k ∧ k ≤ 14) (w : World) : Calls Tryf.prog 16 #[.int .i64 k] w (RetP (.int .i64 (kid k)) w) := by
  rcases cls_cases h with rfl | rfl | rfl | rfl | rfl | rfl | rfl | rfl | rfl | rfl | rfl | rfl | rfl | rfl | rfl
  all_goals (go_enter Tryf.func16, Tryf.ntmps16; go_wp2; go_ret; exact ⟨rfl, rfl⟩)
set_option maxRecDepth 100000 in
set_option maxHeartbeats 4000000 in
theorem closer_any (k : Int) (h : 0 ≤ k ∧ k ≤ 14) (w : World) : Calls Tryf.prog 9 #[.int .i64 k] w (RetP (.int .i64 (cl k)) w) := by
  rcases cls_cases h with rfl | rfl | rfl | rfl | rfl | rfl | rfl | rfl | rfl | rfl | rfl | rfl | rfl | rfl | rfl
  all_goals (go_enter Tryf.func9, Tryf.ntmps9; go_wp2; go_ret; exact ⟨rfl, rfl⟩)
set_option maxRecDepth 100000 in
set_option maxHeartbeats 4000000 in
theorem kind_any (k : Int) (h : 0 ≤ k ∧ k ≤ 14) (w : World) : Calls Tryf.prog 13 #[.int .i64 k] w (RetP (.int .u8 (kd k)) w) := by
  rcases cls_cases h with rfl | rfl | rfl | rfl | rfl | rfl | rfl | rfl | rfl | rfl | rfl | rfl | rfl | rfl | rfl
  all_goals (go_enter Tryf.func13, Tryf.ntmps13; go_wp2; go_ret; exact ⟨rfl, rfl⟩)
set_option maxRecDepth 100000 in
set_option maxHeartbeats 4000000 in
theorem text_any (k : Int) (h : 0 ≤ k ∧ k ≤ 14) (w : World) : Calls Tryf.prog 12 #[.int .i64 k] w (RetP (.string (tx k)) w) := by
  rcases cls_cases h with rfl | rfl | rfl | rfl | rfl | rfl | rfl | rfl | rfl | rfl | rfl | rfl | rfl | rfl | rfl
  all_goals (go_enter Tryf.func12, Tryf.ntmps12; go_wp2; go_ret; exact ⟨rfl, rfl⟩)
end Go.Proofs.YtelpdhhcpdagbaaFmt.Av
