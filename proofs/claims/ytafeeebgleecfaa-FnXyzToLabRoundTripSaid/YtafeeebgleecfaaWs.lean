/-
  Four wrappers of the Lab functions by their contracts.
-/
import Derived.Test.YtafeeebgleecfaaPd
namespace Go.Proofs.Ytafeeebgleecfaa.Mat
open Go.ChangeShapes Go.WideShapes Go.ChangeAt Go.RowKit
open FL
set_option linter.unusedVariables false
attribute [local go_sem] run_store_float build_f64
def VS (g1 g2 g3 : Nat) (x y z : Nat) (w0 : World) (w' : World) : Prop :=
  w'.cell? ⟨g1, 0, none⟩ = some (.float .f64 x) ∧ w'.cell? ⟨g2, 0, none⟩ = some (.float .f64 y) ∧ w'.cell? ⟨g3, 0, none⟩ = some (.float .f64 z) ∧ w0.heap.size ≤ w'.heap.size ∧ Below w0.heap.size w0 w'
theorem VS.keep {g1 g2 g3 x y z : Nat} {w0 w1 w2 : World} (hb : Below w1.heap.size w1 w2) (h : VS g1 g2 g3 x y z w0 w1) : VS g1 g2 g3 x y z w0 w2 := by
  obtain ⟨d1, d2, d3, hz, hB⟩ := h
  exact ⟨later hb d1, later hb d2, later hb d3, Nat.le_trans hz hb.size, hB.trans (hb.mono hz)⟩
theorem VS.drew {g1 g2 g3 x y z : Nat} {w0 w1 : World} (h : VS g1 g2 g3 x y z w0 w1) : VS g1 g2 g3 x y z w0 w1.drew := by
  obtain ⟨d1, d2, d3, hz, hB⟩ := h
  exact ⟨d1, d2, d3, hz, hB.drew⟩

set_option maxRecDepth 100000 in
set_option maxHeartbeats 2000000 in
theorem ZZlabToXyz_n011_166_any (x y z r0 r1 r2 : Nat) (hc : ∀ w, Calls Try.prog 46 #[.agg #[.float .f64 x], .agg #[.float .f64 y], .agg #[.float .f64 z]] w fun e w' => e = .returned (.tuple #[.agg #[.float .f64 r0], .agg #[.float .f64 r1], .agg #[.float .f64 r2]]) ∧ Below w.heap.size w w') (w : World) :
    Calls Try.prog 16 #[.float .f64 x, .float .f64 y, .float .f64 z] w fun e w' => e = .returned (.tuple #[.float .f64 r0, .float .f64 r1, .float .f64 r2]) ∧ Below w.heap.size w w' := by
  have HC := Lib.hid hc
  clear hc
  go_enter Try.func16, Try.ntmps16
  go_wp2_with fail
  refine (NewF64_any x _).mono ?_
  rintro e w1 ⟨rfl, b1⟩
  go_wp2_with fail
  refine (NewF64_any y _).mono ?_
  rintro e w2 ⟨rfl, b2⟩
  go_wp2_with fail
  refine (NewF64_any z _).mono ?_
  rintro e w3 ⟨rfl, b3⟩
  go_wp2_with fail
  refine (HC.out _).mono ?_
  rintro e w4 ⟨rfl, b4⟩
  have B4 : Below w.heap.size w w4 := b1.trans ((b2.mono b1.size).trans ((b3.mono (Nat.le_trans b1.size b2.size)).trans (b4.mono (Nat.le_trans b1.size (Nat.le_trans b2.size b3.size)))))
  clear b1 b2 b3 b4
  go_wp2
  generalize hW : World.alloc _ _ = W
  have hS : VS w4.heap.size (w4.heap.size + 1) (w4.heap.size + 1 + 1) r0 r1 r2 w W := by
    subst hW
    refine ⟨by simp [go_sem], by simp [go_sem], by simp [go_sem], by simp; have := B4.size; omega, ?_⟩
    exact ((B4.alloc B4.size _).alloc (by simp; have := B4.size; omega) _).alloc (by simp; have := B4.size; omega) _
  obtain ⟨g1, hg1⟩ : ∃ g, g = w4.heap.size := ⟨_, rfl⟩
  obtain ⟨g2, hg2⟩ : ∃ g, g = w4.heap.size + 1 := ⟨_, rfl⟩
  obtain ⟨g3, hg3⟩ : ∃ g, g = w4.heap.size + 1 + 1 := ⟨_, rfl⟩
  rw [← hg3, ← hg2, ← hg1] at hS ⊢
  have HS := Lib.hid hS
  clear hS hW hg1 hg2 hg3 B4
  go_region_held3 (fun w' => w'.cell? ⟨g1, 0, none⟩ = some (.float .f64 r0) ∧ w'.cell? ⟨g2, 0, none⟩ = some (.float .f64 r1) ∧ w'.cell? ⟨g3, 0, none⟩ = some (.float .f64 r2) ∧ w.heap.size ≤ w'.heap.size ∧ Below w.heap.size w w')
    (first | exact HS.out.drew | (refine VS.keep ‹Below _ _ _› ?_; assumption))
    (first | (go_at_call 43; refine (Value_any _ _).mono ?_; rintro e w' ⟨rfl, hb⟩))
  rename_i hH
  have hB := hH.2.2.2.2
  clear hH
  go_wp2
  go_ret3
  exact ⟨rfl, hB⟩

set_option maxRecDepth 100000 in
set_option maxHeartbeats 2000000 in
theorem ZZxyzToLab_n011_166_any (x y z r0 r1 r2 : Nat) (hc : ∀ w, Calls Try.prog 47 #[.agg #[.float .f64 x], .agg #[.float .f64 y], .agg #[.float .f64 z]] w fun e w' => e = .returned (.tuple #[.agg #[.float .f64 r0], .agg #[.float .f64 r1], .agg #[.float .f64 r2]]) ∧ Below w.heap.size w w') (w : World) :
    Calls Try.prog 17 #[.float .f64 x, .float .f64 y, .float .f64 z] w fun e w' => e = .returned (.tuple #[.float .f64 r0, .float .f64 r1, .float .f64 r2]) ∧ Below w.heap.size w w' := by
  have HC := Lib.hid hc
  clear hc
  go_enter Try.func17, Try.ntmps17
  go_wp2_with fail
  refine (NewF64_any x _).mono ?_
  rintro e w1 ⟨rfl, b1⟩
  go_wp2_with fail
  refine (NewF64_any y _).mono ?_
  rintro e w2 ⟨rfl, b2⟩
  go_wp2_with fail
  refine (NewF64_any z _).mono ?_
  rintro e w3 ⟨rfl, b3⟩
  go_wp2_with fail
  refine (HC.out _).mono ?_
  rintro e w4 ⟨rfl, b4⟩
  have B4 : Below w.heap.size w w4 := b1.trans ((b2.mono b1.size).trans ((b3.mono (Nat.le_trans b1.size b2.size)).trans (b4.mono (Nat.le_trans b1.size (Nat.le_trans b2.size b3.size)))))
  clear b1 b2 b3 b4
  go_wp2
  generalize hW : World.alloc _ _ = W
  have hS : VS w4.heap.size (w4.heap.size + 1) (w4.heap.size + 1 + 1) r0 r1 r2 w W := by
    subst hW
    refine ⟨by simp [go_sem], by simp [go_sem], by simp [go_sem], by simp; have := B4.size; omega, ?_⟩
    exact ((B4.alloc B4.size _).alloc (by simp; have := B4.size; omega) _).alloc (by simp; have := B4.size; omega) _
  obtain ⟨g1, hg1⟩ : ∃ g, g = w4.heap.size := ⟨_, rfl⟩
  obtain ⟨g2, hg2⟩ : ∃ g, g = w4.heap.size + 1 := ⟨_, rfl⟩
  obtain ⟨g3, hg3⟩ : ∃ g, g = w4.heap.size + 1 + 1 := ⟨_, rfl⟩
  rw [← hg3, ← hg2, ← hg1] at hS ⊢
  have HS := Lib.hid hS
  clear hS hW hg1 hg2 hg3 B4
  go_region_held3 (fun w' => w'.cell? ⟨g1, 0, none⟩ = some (.float .f64 r0) ∧ w'.cell? ⟨g2, 0, none⟩ = some (.float .f64 r1) ∧ w'.cell? ⟨g3, 0, none⟩ = some (.float .f64 r2) ∧ w.heap.size ≤ w'.heap.size ∧ Below w.heap.size w w')
    (first | exact HS.out.drew | (refine VS.keep ‹Below _ _ _› ?_; assumption))
    (first | (go_at_call 43; refine (Value_any _ _).mono ?_; rintro e w' ⟨rfl, hb⟩))
  rename_i hH
  have hB := hH.2.2.2.2
  clear hH
  go_wp2
  go_ret3
  exact ⟨rfl, hB⟩

set_option maxRecDepth 100000 in
set_option maxHeartbeats 2000000 in
theorem ZZxyzToLab_n011_70_any (x y z r0 r1 r2 : Nat) (hc : ∀ w, Calls Try.prog 47 #[.agg #[.float .f64 x], .agg #[.float .f64 y], .agg #[.float .f64 z]] w fun e w' => e = .returned (.tuple #[.agg #[.float .f64 r0], .agg #[.float .f64 r1], .agg #[.float .f64 r2]]) ∧ Below w.heap.size w w') (w : World) :
    Calls Try.prog 20 #[.float .f64 x, .float .f64 y, .float .f64 z] w fun e w' => e = .returned (.tuple #[.float .f64 r0, .float .f64 r1, .float .f64 r2]) ∧ Below w.heap.size w w' := by
  have HC := Lib.hid hc
  clear hc
  go_enter Try.func20, Try.ntmps20
  go_wp2_with fail
  refine (NewF64_any x _).mono ?_
  rintro e w1 ⟨rfl, b1⟩
  go_wp2_with fail
  refine (NewF64_any y _).mono ?_
  rintro e w2 ⟨rfl, b2⟩
  go_wp2_with fail
  refine (NewF64_any z _).mono ?_
  rintro e w3 ⟨rfl, b3⟩
  go_wp2_with fail
  refine (HC.out _).mono ?_
  rintro e w4 ⟨rfl, b4⟩
  have B4 : Below w.heap.size w w4 := b1.trans ((b2.mono b1.size).trans ((b3.mono (Nat.le_trans b1.size b2.size)).trans (b4.mono (Nat.le_trans b1.size (Nat.le_trans b2.size b3.size)))))
  clear b1 b2 b3 b4
  go_wp2
  generalize hW : World.alloc _ _ = W
  have hS : VS w4.heap.size (w4.heap.size + 1) (w4.heap.size + 1 + 1) r0 r1 r2 w W := by
    subst hW
    refine ⟨by simp [go_sem], by simp [go_sem], by simp [go_sem], by simp; have := B4.size; omega, ?_⟩
    exact ((B4.alloc B4.size _).alloc (by simp; have := B4.size; omega) _).alloc (by simp; have := B4.size; omega) _
  obtain ⟨g1, hg1⟩ : ∃ g, g = w4.heap.size := ⟨_, rfl⟩
  obtain ⟨g2, hg2⟩ : ∃ g, g = w4.heap.size + 1 := ⟨_, rfl⟩
  obtain ⟨g3, hg3⟩ : ∃ g, g = w4.heap.size + 1 + 1 := ⟨_, rfl⟩
  rw [← hg3, ← hg2, ← hg1] at hS ⊢
  have HS := Lib.hid hS
  clear hS hW hg1 hg2 hg3 B4
  go_region_held3 (fun w' => w'.cell? ⟨g1, 0, none⟩ = some (.float .f64 r0) ∧ w'.cell? ⟨g2, 0, none⟩ = some (.float .f64 r1) ∧ w'.cell? ⟨g3, 0, none⟩ = some (.float .f64 r2) ∧ w.heap.size ≤ w'.heap.size ∧ Below w.heap.size w w')
    (first | exact HS.out.drew | (refine VS.keep ‹Below _ _ _› ?_; assumption))
    (first | (go_at_call 43; refine (Value_any _ _).mono ?_; rintro e w' ⟨rfl, hb⟩))
  rename_i hH
  have hB := hH.2.2.2.2
  clear hH
  go_wp2
  go_ret3
  exact ⟨rfl, hB⟩

set_option maxRecDepth 100000 in
set_option maxHeartbeats 2000000 in
theorem ZZlabToXyz_n011_70_any (x y z r0 r1 r2 : Nat) (hc : ∀ w, Calls Try.prog 46 #[.agg #[.float .f64 x], .agg #[.float .f64 y], .agg #[.float .f64 z]] w fun e w' => e = .returned (.tuple #[.agg #[.float .f64 r0], .agg #[.float .f64 r1], .agg #[.float .f64 r2]]) ∧ Below w.heap.size w w') (w : World) :
    Calls Try.prog 21 #[.float .f64 x, .float .f64 y, .float .f64 z] w fun e w' => e = .returned (.tuple #[.float .f64 r0, .float .f64 r1, .float .f64 r2]) ∧ Below w.heap.size w w' := by
  have HC := Lib.hid hc
  clear hc
  go_enter Try.func21, Try.ntmps21
  go_wp2_with fail
  refine (NewF64_any x _).mono ?_
  rintro e w1 ⟨rfl, b1⟩
  go_wp2_with fail
  refine (NewF64_any y _).mono ?_
  rintro e w2 ⟨rfl, b2⟩
  go_wp2_with fail
  refine (NewF64_any z _).mono ?_
  rintro e w3 ⟨rfl, b3⟩
  go_wp2_with fail
  refine (HC.out _).mono ?_
  rintro e w4 ⟨rfl, b4⟩
  have B4 : Below w.heap.size w w4 := b1.trans ((b2.mono b1.size).trans ((b3.mono (Nat.le_trans b1.size b2.size)).trans (b4.mono (Nat.le_trans b1.size (Nat.le_trans b2.size b3.size)))))
  clear b1 b2 b3 b4
  go_wp2
  generalize hW : World.alloc _ _ = W
  have hS : VS w4.heap.size (w4.heap.size + 1) (w4.heap.size + 1 + 1) r0 r1 r2 w W := by
    subst hW
    refine ⟨by simp [go_sem], by simp [go_sem], by simp [go_sem], by simp; have := B4.size; omega, ?_⟩
    exact ((B4.alloc B4.size _).alloc (by simp; have := B4.size; omega) _).alloc (by simp; have := B4.size; omega) _
  obtain ⟨g1, hg1⟩ : ∃ g, g = w4.heap.size := ⟨_, rfl⟩
  obtain ⟨g2, hg2⟩ : ∃ g, g = w4.heap.size + 1 := ⟨_, rfl⟩
  obtain ⟨g3, hg3⟩ : ∃ g, g = w4.heap.size + 1 + 1 := ⟨_, rfl⟩
  rw [← hg3, ← hg2, ← hg1] at hS ⊢
  have HS := Lib.hid hS
  clear hS hW hg1 hg2 hg3 B4
  go_region_held3 (fun w' => w'.cell? ⟨g1, 0, none⟩ = some (.float .f64 r0) ∧ w'.cell? ⟨g2, 0, none⟩ = some (.float .f64 r1) ∧ w'.cell? ⟨g3, 0, none⟩ = some (.float .f64 r2) ∧ w.heap.size ≤ w'.heap.size ∧ Below w.heap.size w w')
    (first | exact HS.out.drew | (refine VS.keep ‹Below _ _ _› ?_; assumption))
    (first | (go_at_call 43; refine (Value_any _ _).mono ?_; rintro e w' ⟨rfl, hb⟩))
  rename_i hH
  have hB := hH.2.2.2.2
  clear hH
  go_wp2
  go_ret3
  exact ⟨rfl, hB⟩

end Go.Proofs.Ytafeeebgleecfaa.Mat
