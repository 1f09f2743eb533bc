import Derived.Test.YtoaanhipdjjeiaaVal
namespace Go.Proofs.Ytoaanhipdjjeiaa.Scan
open Go.ChangeShapes Go.WideShapes Go.ChangeAt Go.RowKit Go.Deep
set_option linter.unusedVariables false
def SW (g o m k : Nat) (c : Int) (w : World) (e : Ending) (w' : World) : Prop :=
  ∃ (A' : Option Addr) (nq : Nat), e = .returned (.tuple #[.int .u8 c, .slice A' (m - k) (m - k)]) ∧ (0 < m - k → A' = some ⟨g, o + k * 7, none⟩) ∧ w' = w.drewN nq
def S0 (A : Option Addr) (m : Nat) (w : World) (e : Ending) (w' : World) : Prop := e = .returned (.tuple #[.int .u8 0, .slice A m m]) ∧ w' = w
set_option maxRecDepth 100000 in
set_option maxHeartbeats 1000000 in
theorem sca_m0 (A : Option Addr) (w : World) : Calls Try.prog 15 #[.slice A 0 0] w (S0 A 0 w) := by
  go_enter Try.func15, Try.ntmps15
  go_wp2
  go_ret2
  exact ⟨rfl, rfl⟩
set_option maxRecDepth 100000 in
set_option maxHeartbeats 1000000 in
theorem sca_none (m : Nat) (hm : 1 ≤ m) (hm2 : (m : Int) ≤ 16384) (g o : Nat) (k0 k1 s0 s1 : Int) (w : World) (c0 : w.cell? ⟨g, o + 5, none⟩ = some (.int .u8 k0)) (c1 : w.cell? ⟨g, o + 6, none⟩ = some (.int .u8 s0)) (x1 : (k0 == 18) = false) (x2 : (k0 == 21) = false) (x3 : (k0 == 20) = false) : Calls Try.prog 15 #[.slice (some ⟨g, o, none⟩) m m] w (S0 (some ⟨g, o, none⟩) m w) := by
  have q0 : (1 : Int) ≤ m := by omega
  have q2 : (0 : Int) < m := by omega
  go_enter Try.func15, Try.ntmps15
  go_wp2
  go_ret2
  exact ⟨rfl, rfl⟩
set_option maxRecDepth 100000 in
set_option maxHeartbeats 1000000 in
theorem sca_eq_1 (g o : Nat) (k0 k1 s0 s1 : Int) (w : World) (c0 : w.cell? ⟨g, o + 5, none⟩ = some (.int .u8 18)) (c1 : w.cell? ⟨g, o + 6, none⟩ = some (.int .u8 s0)) : Calls Try.prog 15 #[.slice (some ⟨g, o, none⟩) 1 1] w (SW g o 1 1 1 w) := by
  go_enter Try.func15, Try.ntmps15
  go_wp2
  go_quiet (fail)
  go_wp2
  go_ret2
  exact ⟨_, _, rfl, fun h => by first | rfl | omega, by first | rfl | (simp; rfl)⟩
set_option maxRecDepth 100000 in
set_option maxHeartbeats 1000000 in
theorem sca_eq_m (m : Nat) (hm : 2 ≤ m) (hm2 : (m : Int) ≤ 16384) (g o : Nat) (k0 k1 s0 s1 : Int) (w : World) (c0 : w.cell? ⟨g, o + 5, none⟩ = some (.int .u8 18)) (c1 : w.cell? ⟨g, o + 6, none⟩ = some (.int .u8 s0)) : Calls Try.prog 15 #[.slice (some ⟨g, o, none⟩) m m] w (SW g o m 1 1 w) := by
  have q0 : (1 : Int) ≤ m := by omega
  have q1 : (2 : Int) ≤ m := by omega
  have q2 : (0 : Int) < m := by omega
  have q3 : (1 : Int) < m := by omega
  have q6 : ¬ m = 1 := by omega
  have d1 : decide ((1 : Int) ≤ m) = true := by simp; omega
  have d2 : decide ((2 : Int) ≤ m) = true := by simp; omega
  go_enter Try.func15, Try.ntmps15
  go_wp2
  go_quiet (fail)
  go_wp2
  go_ret2
  exact ⟨_, _, rfl, fun h => by first | rfl | omega, by first | rfl | (simp; rfl)⟩
set_option maxRecDepth 100000 in
set_option maxHeartbeats 1000000 in
theorem sca_lt_1 (g o : Nat) (k0 k1 s0 s1 : Int) (w : World) (c0 : w.cell? ⟨g, o + 5, none⟩ = some (.int .u8 21)) (c1 : w.cell? ⟨g, o + 6, none⟩ = some (.int .u8 s0)) : Calls Try.prog 15 #[.slice (some ⟨g, o, none⟩) 1 1] w (SW g o 1 1 2 w) := by
  go_enter Try.func15, Try.ntmps15
  go_wp2
  go_quiet (fail)
  go_wp2
  go_quiet (fail)
  go_wp2
  go_ret2
  exact ⟨_, _, rfl, fun h => by first | rfl | omega, by first | rfl | (simp; rfl)⟩
set_option maxRecDepth 100000 in
set_option maxHeartbeats 1000000 in
theorem sca_lt_ne (m : Nat) (hm : 2 ≤ m) (hm2 : (m : Int) ≤ 16384) (g o : Nat) (k0 k1 s0 s1 : Int) (w : World) (c0 : w.cell? ⟨g, o + 5, none⟩ = some (.int .u8 21)) (c1 : w.cell? ⟨g, o + 6, none⟩ = some (.int .u8 s0)) (c2 : w.cell? ⟨g, o + 12, none⟩ = some (.int .u8 k1)) (c3 : w.cell? ⟨g, o + 13, none⟩ = some (.int .u8 s1)) (x1 : (k1 == 18) = false) : Calls Try.prog 15 #[.slice (some ⟨g, o, none⟩) m m] w (SW g o m 1 2 w) := by
  have q0 : (1 : Int) ≤ m := by omega
  have q1 : (2 : Int) ≤ m := by omega
  have q2 : (0 : Int) < m := by omega
  have q3 : (1 : Int) < m := by omega
  have q6 : ¬ m = 1 := by omega
  have d1 : decide ((1 : Int) ≤ m) = true := by simp; omega
  have d2 : decide ((2 : Int) ≤ m) = true := by simp; omega
  go_enter Try.func15, Try.ntmps15
  go_wp2
  go_quiet (fail)
  go_wp2
  go_quiet (fail)
  go_wp2
  go_ret2
  exact ⟨_, _, rfl, fun h => by first | rfl | omega, by first | rfl | (simp; rfl)⟩
set_option maxRecDepth 100000 in
set_option maxHeartbeats 1000000 in
theorem sca_lt_sp (m : Nat) (hm : 2 ≤ m) (hm2 : (m : Int) ≤ 16384) (g o : Nat) (k0 k1 s0 s1 : Int) (w : World) (c0 : w.cell? ⟨g, o + 5, none⟩ = some (.int .u8 21)) (c1 : w.cell? ⟨g, o + 6, none⟩ = some (.int .u8 s0)) (c2 : w.cell? ⟨g, o + 12, none⟩ = some (.int .u8 18)) (c3 : w.cell? ⟨g, o + 13, none⟩ = some (.int .u8 s1)) (hfl : (bits BinOp.or IntKind.u8 (bits BinOp.and IntKind.u8 s0 2) (bits BinOp.and IntKind.u8 s1 1) == 0) = false) : Calls Try.prog 15 #[.slice (some ⟨g, o, none⟩) m m] w (SW g o m 1 2 w) := by
  have q0 : (1 : Int) ≤ m := by omega
  have q1 : (2 : Int) ≤ m := by omega
  have q2 : (0 : Int) < m := by omega
  have q3 : (1 : Int) < m := by omega
  have q6 : ¬ m = 1 := by omega
  have d1 : decide ((1 : Int) ≤ m) = true := by simp; omega
  have d2 : decide ((2 : Int) ≤ m) = true := by simp; omega
  go_enter Try.func15, Try.ntmps15
  go_wp2
  go_quiet (fail)
  go_wp2
  go_quiet (fail)
  go_wp2
  go_ret2
  exact ⟨_, _, rfl, fun h => by first | rfl | omega, by first | rfl | (simp; rfl)⟩
set_option maxRecDepth 100000 in
set_option maxHeartbeats 1000000 in
theorem sca_lt_y2 (g o : Nat) (k0 k1 s0 s1 : Int) (w : World) (c0 : w.cell? ⟨g, o + 5, none⟩ = some (.int .u8 21)) (c1 : w.cell? ⟨g, o + 6, none⟩ = some (.int .u8 s0)) (c2 : w.cell? ⟨g, o + 12, none⟩ = some (.int .u8 18)) (c3 : w.cell? ⟨g, o + 13, none⟩ = some (.int .u8 s1)) (hfl : (bits BinOp.or IntKind.u8 (bits BinOp.and IntKind.u8 s0 2) (bits BinOp.and IntKind.u8 s1 1) == 0) = true) : Calls Try.prog 15 #[.slice (some ⟨g, o, none⟩) 2 2] w (SW g o 2 2 3 w) := by
  go_enter Try.func15, Try.ntmps15
  go_wp2
  go_quiet (fail)
  go_wp2
  go_quiet (fail)
  go_wp2
  go_ret2
  exact ⟨_, _, rfl, fun h => by first | rfl | omega, by first | rfl | (simp; rfl)⟩
set_option maxRecDepth 100000 in
set_option maxHeartbeats 1000000 in
theorem sca_lt_ym (m : Nat) (hm : 3 ≤ m) (hm2 : (m : Int) ≤ 16384) (g o : Nat) (k0 k1 s0 s1 : Int) (w : World) (c0 : w.cell? ⟨g, o + 5, none⟩ = some (.int .u8 21)) (c1 : w.cell? ⟨g, o + 6, none⟩ = some (.int .u8 s0)) (c2 : w.cell? ⟨g, o + 12, none⟩ = some (.int .u8 18)) (c3 : w.cell? ⟨g, o + 13, none⟩ = some (.int .u8 s1)) (hfl : (bits BinOp.or IntKind.u8 (bits BinOp.and IntKind.u8 s0 2) (bits BinOp.and IntKind.u8 s1 1) == 0) = true) : Calls Try.prog 15 #[.slice (some ⟨g, o, none⟩) m m] w (SW g o m 2 3 w) := by
  have q0 : (1 : Int) ≤ m := by omega
  have q1 : (2 : Int) ≤ m := by omega
  have q2 : (0 : Int) < m := by omega
  have q3 : (1 : Int) < m := by omega
  have q6 : ¬ m = 1 := by omega
  have d1 : decide ((1 : Int) ≤ m) = true := by simp; omega
  have d2 : decide ((2 : Int) ≤ m) = true := by simp; omega
  have q7 : ¬ m = 2 := by omega
  go_enter Try.func15, Try.ntmps15
  go_wp2
  go_quiet (fail)
  go_wp2
  go_quiet (fail)
  go_wp2
  go_ret2
  exact ⟨_, _, rfl, fun h => by first | rfl | omega, by first | rfl | (simp; rfl)⟩
set_option maxRecDepth 100000 in
set_option maxHeartbeats 1000000 in
theorem sca_gt_1 (g o : Nat) (k0 k1 s0 s1 : Int) (w : World) (c0 : w.cell? ⟨g, o + 5, none⟩ = some (.int .u8 20)) (c1 : w.cell? ⟨g, o + 6, none⟩ = some (.int .u8 s0)) : Calls Try.prog 15 #[.slice (some ⟨g, o, none⟩) 1 1] w (SW g o 1 1 4 w) := by
  go_enter Try.func15, Try.ntmps15
  go_wp2
  go_quiet (fail)
  go_wp2
  go_quiet (fail)
  go_wp2
  go_ret2
  exact ⟨_, _, rfl, fun h => by first | rfl | omega, by first | rfl | (simp; rfl)⟩
set_option maxRecDepth 100000 in
set_option maxHeartbeats 1000000 in
theorem sca_gt_ne (m : Nat) (hm : 2 ≤ m) (hm2 : (m : Int) ≤ 16384) (g o : Nat) (k0 k1 s0 s1 : Int) (w : World) (c0 : w.cell? ⟨g, o + 5, none⟩ = some (.int .u8 20)) (c1 : w.cell? ⟨g, o + 6, none⟩ = some (.int .u8 s0)) (c2 : w.cell? ⟨g, o + 12, none⟩ = some (.int .u8 k1)) (c3 : w.cell? ⟨g, o + 13, none⟩ = some (.int .u8 s1)) (x1 : (k1 == 18) = false) : Calls Try.prog 15 #[.slice (some ⟨g, o, none⟩) m m] w (SW g o m 1 4 w) := by
  have q0 : (1 : Int) ≤ m := by omega
  have q1 : (2 : Int) ≤ m := by omega
  have q2 : (0 : Int) < m := by omega
  have q3 : (1 : Int) < m := by omega
  have q6 : ¬ m = 1 := by omega
  have d1 : decide ((1 : Int) ≤ m) = true := by simp; omega
  have d2 : decide ((2 : Int) ≤ m) = true := by simp; omega
  go_enter Try.func15, Try.ntmps15
  go_wp2
  go_quiet (fail)
  go_wp2
  go_quiet (fail)
  go_wp2
  go_ret2
  exact ⟨_, _, rfl, fun h => by first | rfl | omega, by first | rfl | (simp; rfl)⟩
set_option maxRecDepth 100000 in
set_option maxHeartbeats 1000000 in
theorem sca_gt_sp (m : Nat) (hm : 2 ≤ m) (hm2 : (m : Int) ≤ 16384) (g o : Nat) (k0 k1 s0 s1 : Int) (w : World) (c0 : w.cell? ⟨g, o + 5, none⟩ = some (.int .u8 20)) (c1 : w.cell? ⟨g, o + 6, none⟩ = some (.int .u8 s0)) (c2 : w.cell? ⟨g, o + 12, none⟩ = some (.int .u8 18)) (c3 : w.cell? ⟨g, o + 13, none⟩ = some (.int .u8 s1)) (hfl : (bits BinOp.or IntKind.u8 (bits BinOp.and IntKind.u8 s0 2) (bits BinOp.and IntKind.u8 s1 1) == 0) = false) : Calls Try.prog 15 #[.slice (some ⟨g, o, none⟩) m m] w (SW g o m 1 4 w) := by
  have q0 : (1 : Int) ≤ m := by omega
  have q1 : (2 : Int) ≤ m := by omega
  have q2 : (0 : Int) < m := by omega
  have q3 : (1 : Int) < m := by omega
  have q6 : ¬ m = 1 := by omega
  have d1 : decide ((1 : Int) ≤ m) = true := by simp; omega
  have d2 : decide ((2 : Int) ≤ m) = true := by simp; omega
  go_enter Try.func15, Try.ntmps15
  go_wp2
  go_quiet (fail)
  go_wp2
  go_quiet (fail)
  go_wp2
  go_ret2
  exact ⟨_, _, rfl, fun h => by first | rfl | omega, by first | rfl | (simp; rfl)⟩
set_option maxRecDepth 100000 in
set_option maxHeartbeats 1000000 in
theorem sca_gt_y2 (g o : Nat) (k0 k1 s0 s1 : Int) (w : World) (c0 : w.cell? ⟨g, o + 5, none⟩ = some (.int .u8 20)) (c1 : w.cell? ⟨g, o + 6, none⟩ = some (.int .u8 s0)) (c2 : w.cell? ⟨g, o + 12, none⟩ = some (.int .u8 18)) (c3 : w.cell? ⟨g, o + 13, none⟩ = some (.int .u8 s1)) (hfl : (bits BinOp.or IntKind.u8 (bits BinOp.and IntKind.u8 s0 2) (bits BinOp.and IntKind.u8 s1 1) == 0) = true) : Calls Try.prog 15 #[.slice (some ⟨g, o, none⟩) 2 2] w (SW g o 2 2 5 w) := by
  go_enter Try.func15, Try.ntmps15
  go_wp2
  go_quiet (fail)
  go_wp2
  go_quiet (fail)
  go_wp2
  go_ret2
  exact ⟨_, _, rfl, fun h => by first | rfl | omega, by first | rfl | (simp; rfl)⟩
set_option maxRecDepth 100000 in
set_option maxHeartbeats 1000000 in
theorem sca_gt_ym (m : Nat) (hm : 3 ≤ m) (hm2 : (m : Int) ≤ 16384) (g o : Nat) (k0 k1 s0 s1 : Int) (w : World) (c0 : w.cell? ⟨g, o + 5, none⟩ = some (.int .u8 20)) (c1 : w.cell? ⟨g, o + 6, none⟩ = some (.int .u8 s0)) (c2 : w.cell? ⟨g, o + 12, none⟩ = some (.int .u8 18)) (c3 : w.cell? ⟨g, o + 13, none⟩ = some (.int .u8 s1)) (hfl : (bits BinOp.or IntKind.u8 (bits BinOp.and IntKind.u8 s0 2) (bits BinOp.and IntKind.u8 s1 1) == 0) = true) : Calls Try.prog 15 #[.slice (some ⟨g, o, none⟩) m m] w (SW g o m 2 5 w) := by
  have q0 : (1 : Int) ≤ m := by omega
  have q1 : (2 : Int) ≤ m := by omega
  have q2 : (0 : Int) < m := by omega
  have q3 : (1 : Int) < m := by omega
  have q6 : ¬ m = 1 := by omega
  have d1 : decide ((1 : Int) ≤ m) = true := by simp; omega
  have d2 : decide ((2 : Int) ≤ m) = true := by simp; omega
  have q7 : ¬ m = 2 := by omega
  go_enter Try.func15, Try.ntmps15
  go_wp2
  go_quiet (fail)
  go_wp2
  go_quiet (fail)
  go_wp2
  go_ret2
  exact ⟨_, _, rfl, fun h => by first | rfl | omega, by first | rfl | (simp; rfl)⟩
end Go.Proofs.Ytoaanhipdjjeiaa.Scan
