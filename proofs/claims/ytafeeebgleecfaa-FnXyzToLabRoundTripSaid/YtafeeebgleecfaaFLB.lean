/-
  Plain facts on IEEE double words, continued: infinities and NaNs.
-/
import Derived.Test.YtafeeebgleecfaaFL
namespace FL
open Ieee
set_option linter.unusedVariables false
/-! ### words that are not finite -/
def NaN (x : Nat) : Prop := x < 2 ^ 64 ∧ 2047 * 2 ^ 52 < x % 2 ^ 63
def Inf (x : Nat) : Prop := x < 2 ^ 64 ∧ x % 2 ^ 63 = 2047 * 2 ^ 52
theorem classes (x : Nat) (h : x < 2 ^ 64) : Finite x ∨ Inf x ∨ NaN x := by
  rcases Nat.lt_trichotomy (x % 2 ^ 63) (2047 * 2 ^ 52) with h1 | h1 | h1
  · exact .inl ⟨h, h1⟩
  · exact .inr (.inl ⟨h, h1⟩)
  · exact .inr (.inr ⟨h, h1⟩)
theorem nan_order_l {x : Nat} (h : NaN x) (y : Nat) : double.order x y = none := by
  unfold Format.order
  rw [read_nan x h.2]; rfl
theorem nan_order_r {y : Nat} (h : NaN y) (x : Nat) : double.order x y = none := by
  unfold Format.order
  rw [read_nan y h.2]
  cases double.read x <;> rfl
theorem order_self {x : Nat} (h : Finite x ∨ Inf x) : double.order x x = some .eq := by
  rcases h with h | h
  · rw [order_ok x x h h, if_neg Rat.lt_irrefl, if_pos rfl]
  · unfold Format.order
    rw [read_inf x h.2]
    simp [Datum.order]
theorem inf_sub_self {x : Nat} (h : Inf x) : double.sub x x = none := by
  unfold Format.sub
  rw [read_inf x h.2]
  simp [Datum.opposite, Datum.sum]
theorem fin_sub_self {x : Nat} (h : Finite x) : ∃ d, double.sub x x = some d ∧ Finite d ∧ val d = 0 := by
  have hp := p2_pos 1023
  obtain ⟨d, e, fd, b⟩ := sub_ok x x h h (by grind) (by grind)
  obtain ⟨b1, b2⟩ := b 0 (by grind) (by grind)
  refine ⟨d, e, fd, ?_⟩
  unfold u at b1 b2
  grind
theorem nan_cut (t : Nat) : NaN ((t % 2) * 2 ^ 63 + 0x7ff0000000000000 + 1 + (t / 2) % (2 ^ 52 - 1)) := by
  have h1 : t % 2 < 2 := Nat.mod_lt _ (by decide)
  have h2 : (t / 2) % (2 ^ 52 - 1) < 2 ^ 52 - 1 := Nat.mod_lt _ (by decide)
  generalize t % 2 = a at *
  generalize (t / 2) % (2 ^ 52 - 1) = b at *
  constructor
  · omega
  · have : (a * 2 ^ 63 + 0x7ff0000000000000 + 1 + b) % 2 ^ 63 = 0x7ff0000000000000 + 1 + b := by omega
    rw [this]
    omega
end FL
