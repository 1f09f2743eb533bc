import Derived.Test.YtfbmomnfbkdbbaaScanD
namespace Go.Proofs.Ytfbmomnfbkdbbaa.Scan
open Go.ChangeShapes Go.WideShapes Go.ChangeAt Go.RowKit Go.Deep
set_option linter.unusedVariables false
/-- what scanMediaComparison answers: comparison 3 (5) only for two tokens, the first 21 (20), the second 18 -/
def ScanR (n : Nat) (k0 k1 : Int) (w : World) (e : Ending) (w' : World) : Prop :=
  ∃ (nq : Nat) (c : Int) (r : Value), e = .returned (.tuple #[.int .u8 c, r]) ∧ w' = w.drewN nq ∧ 0 ≤ c ∧ c ≤ 5 ∧ (c = 3 → 2 ≤ n ∧ k0 = 21 ∧ k1 = 18) ∧ (c = 5 → 2 ≤ n ∧ k0 = 20 ∧ k1 = 18)
def ScanS (c : Int) (g n : Nat) (w : World) (e : Ending) (w' : World) : Prop :=
  ∃ (nq : Nat), e = .returned (.tuple #[.int .u8 c, .slice (some ⟨g, 7, none⟩) (n - 1) (n - 1)]) ∧ w' = w.drewN nq
set_option maxRecDepth 100000 in
set_option maxHeartbeats 1000000 in
theorem scan_n0 (g : Nat) (k0 k1 s0 s1 : Int) (w : World) :
    Calls Try.prog 37 #[.slice (some ⟨g, 0, none⟩) 0 0] w (ScanR 0 k0 k1 w) := by
  go_enter Try.func37, Try.ntmps37
  go_wp2
  go_ret2
  exact ⟨_, _, _, rfl, (World.drewN_zero _).symm, by omega, by omega, fun h => absurd h (by omega), fun h => absurd h (by omega)⟩
set_option maxRecDepth 100000 in
set_option maxHeartbeats 1000000 in
theorem scan_other_1 (g : Nat) (k0 k1 s0 s1 : Int) (w : World) (x1 : (k0 == 18) = false) (x2 : (k0 == 21) = false) (x3 : (k0 == 20) = false) (c0 : w.cell? ⟨g, 5, none⟩ = some (.int .u8 k0)) (c1 : w.cell? ⟨g, 6, none⟩ = some (.int .u8 s0)) :
    Calls Try.prog 37 #[.slice (some ⟨g, 0, none⟩) 1 1] w (ScanR 1 k0 k1 w) := by
  go_enter Try.func37, Try.ntmps37
  go_wp2
  go_ret2
  exact ⟨_, _, _, rfl, (World.drewN_zero _).symm, by omega, by omega, fun h => absurd h (by omega), fun h => absurd h (by omega)⟩
set_option maxRecDepth 100000 in
set_option maxHeartbeats 1000000 in
theorem scan_eq_1 (g : Nat) (k0 k1 s0 s1 : Int) (w : World) (c0 : w.cell? ⟨g, 5, none⟩ = some (.int .u8 18)) (c1 : w.cell? ⟨g, 6, none⟩ = some (.int .u8 s0)) :
    Calls Try.prog 37 #[.slice (some ⟨g, 0, none⟩) 1 1] w (ScanR 1 18 k1 w) := by
  go_enter Try.func37, Try.ntmps37
  go_wp2
  go_quiet (fail)
  go_wp2
  go_ret2
  exact ⟨_, _, _, rfl, rfl, by omega, by omega, fun h => absurd h (by omega), fun h => absurd h (by omega)⟩
set_option maxRecDepth 100000 in
set_option maxHeartbeats 1000000 in
theorem scan_other_2 (g : Nat) (k0 k1 s0 s1 : Int) (w : World) (x1 : (k0 == 18) = false) (x2 : (k0 == 21) = false) (x3 : (k0 == 20) = false) (c0 : w.cell? ⟨g, 5, none⟩ = some (.int .u8 k0)) (c1 : w.cell? ⟨g, 6, none⟩ = some (.int .u8 s0)) (c2 : w.cell? ⟨g, 12, none⟩ = some (.int .u8 k1)) (c3 : w.cell? ⟨g, 13, none⟩ = some (.int .u8 s1)) :
    Calls Try.prog 37 #[.slice (some ⟨g, 0, none⟩) 2 2] w (ScanR 2 k0 k1 w) := by
  go_enter Try.func37, Try.ntmps37
  go_wp2
  go_ret2
  exact ⟨_, _, _, rfl, (World.drewN_zero _).symm, by omega, by omega, fun h => absurd h (by omega), fun h => absurd h (by omega)⟩
set_option maxRecDepth 100000 in
set_option maxHeartbeats 1000000 in
theorem scan_eq_2 (g : Nat) (k0 k1 s0 s1 : Int) (w : World) (c0 : w.cell? ⟨g, 5, none⟩ = some (.int .u8 18)) (c1 : w.cell? ⟨g, 6, none⟩ = some (.int .u8 s0)) (c2 : w.cell? ⟨g, 12, none⟩ = some (.int .u8 k1)) (c3 : w.cell? ⟨g, 13, none⟩ = some (.int .u8 s1)) :
    Calls Try.prog 37 #[.slice (some ⟨g, 0, none⟩) 2 2] w (ScanR 2 18 k1 w) := by
  go_enter Try.func37, Try.ntmps37
  go_wp2
  go_quiet (fail)
  go_wp2
  go_ret2
  exact ⟨_, _, _, rfl, rfl, by omega, by omega, fun h => absurd h (by omega), fun h => absurd h (by omega)⟩
set_option maxRecDepth 100000 in
set_option maxHeartbeats 1000000 in
theorem scan_other_ge3 (n : Nat) (hn : 3 ≤ n) (hn2 : (n : Int) ≤ 16384) (g : Nat) (k0 k1 s0 s1 : Int) (w : World) (x1 : (k0 == 18) = false) (x2 : (k0 == 21) = false) (x3 : (k0 == 20) = false) (c0 : w.cell? ⟨g, 5, none⟩ = some (.int .u8 k0)) (c1 : w.cell? ⟨g, 6, none⟩ = some (.int .u8 s0)) (c2 : w.cell? ⟨g, 12, none⟩ = some (.int .u8 k1)) (c3 : w.cell? ⟨g, 13, none⟩ = some (.int .u8 s1)) :
    Calls Try.prog 37 #[.slice (some ⟨g, 0, none⟩) n n] w (ScanR n k0 k1 w) := by
  have q0 : (1 : Int) ≤ n := by omega
  have q1 : (2 : Int) ≤ n := by omega
  have d1 : decide ((1 : Int) ≤ n) = true := by simp; omega
  have d2 : decide ((2 : Int) ≤ n) = true := by simp; omega
  go_enter Try.func37, Try.ntmps37
  go_wp2
  go_ret2
  exact ⟨_, _, _, rfl, (World.drewN_zero _).symm, by omega, by omega, fun h => absurd h (by omega), fun h => absurd h (by omega)⟩
set_option maxRecDepth 100000 in
set_option maxHeartbeats 1000000 in
theorem scan_eq_ge3 (n : Nat) (hn : 3 ≤ n) (hn2 : (n : Int) ≤ 16384) (g : Nat) (k0 k1 s0 s1 : Int) (w : World) (c0 : w.cell? ⟨g, 5, none⟩ = some (.int .u8 18)) (c1 : w.cell? ⟨g, 6, none⟩ = some (.int .u8 s0)) (c2 : w.cell? ⟨g, 12, none⟩ = some (.int .u8 k1)) (c3 : w.cell? ⟨g, 13, none⟩ = some (.int .u8 s1)) :
    Calls Try.prog 37 #[.slice (some ⟨g, 0, none⟩) n n] w (ScanR n 18 k1 w) := by
  have q0 : (1 : Int) ≤ n := by omega
  have q1 : (2 : Int) ≤ n := by omega
  have d1 : decide ((1 : Int) ≤ n) = true := by simp; omega
  have d2 : decide ((2 : Int) ≤ n) = true := by simp; omega
  go_enter Try.func37, Try.ntmps37
  go_wp2
  go_quiet (fail)
  go_wp2
  go_ret2
  exact ⟨_, _, _, rfl, rfl, by omega, by omega, fun h => absurd h (by omega), fun h => absurd h (by omega)⟩
set_option maxRecDepth 100000 in
set_option maxHeartbeats 1000000 in
theorem scan_lt_1 (g : Nat) (k0 k1 s0 s1 : Int) (w : World) (c0 : w.cell? ⟨g, 5, none⟩ = some (.int .u8 21)) (c1 : w.cell? ⟨g, 6, none⟩ = some (.int .u8 s0)) :
    Calls Try.prog 37 #[.slice (some ⟨g, 0, none⟩) 1 1] w (ScanR 1 21 k1 w) := by
  go_enter Try.func37, Try.ntmps37
  go_wp2
  go_quiet (fail)
  go_wp2
  go_quiet (fail)
  go_wp2
  go_ret2
  exact ⟨_, _, _, rfl, by simp; rfl, by omega, by omega, fun h => absurd h (by omega), fun h => absurd h (by omega)⟩
set_option maxRecDepth 100000 in
set_option maxHeartbeats 1000000 in
theorem scan_lt_ne_2 (g : Nat) (k0 k1 s0 s1 : Int) (w : World) (x1 : (k1 == 18) = false) (c0 : w.cell? ⟨g, 5, none⟩ = some (.int .u8 21)) (c1 : w.cell? ⟨g, 6, none⟩ = some (.int .u8 s0)) (c2 : w.cell? ⟨g, 12, none⟩ = some (.int .u8 k1)) (c3 : w.cell? ⟨g, 13, none⟩ = some (.int .u8 s1)) :
    Calls Try.prog 37 #[.slice (some ⟨g, 0, none⟩) 2 2] w (ScanR 2 21 k1 w) := by
  go_enter Try.func37, Try.ntmps37
  go_wp2
  go_quiet (fail)
  go_wp2
  go_quiet (fail)
  go_wp2
  go_ret2
  exact ⟨_, _, _, rfl, by simp; rfl, by omega, by omega, fun h => absurd h (by omega), fun h => absurd h (by omega)⟩
set_option maxRecDepth 100000 in
set_option maxHeartbeats 1000000 in
theorem scan_lt_yes_2 (g : Nat) (k0 k1 s0 s1 : Int) (w : World) (c0 : w.cell? ⟨g, 5, none⟩ = some (.int .u8 21)) (c1 : w.cell? ⟨g, 6, none⟩ = some (.int .u8 s0)) (c2 : w.cell? ⟨g, 12, none⟩ = some (.int .u8 18)) (c3 : w.cell? ⟨g, 13, none⟩ = some (.int .u8 s1)) (hfl : (bits BinOp.or IntKind.u8 (bits BinOp.and IntKind.u8 s0 2) (bits BinOp.and IntKind.u8 s1 1) == 0) = true) :
    Calls Try.prog 37 #[.slice (some ⟨g, 0, none⟩) 2 2] w (ScanR 2 21 18 w) := by
  go_enter Try.func37, Try.ntmps37
  go_wp2
  go_quiet (fail)
  go_wp2
  go_quiet (fail)
  go_wp2
  go_ret2
  exact ⟨_, _, _, rfl, by simp; rfl, by omega, by omega, fun h => ⟨by omega, rfl, rfl⟩, fun h => absurd h (by omega)⟩
set_option maxRecDepth 100000 in
set_option maxHeartbeats 1000000 in
theorem scan_lt_split_2 (g : Nat) (k0 k1 s0 s1 : Int) (w : World) (c0 : w.cell? ⟨g, 5, none⟩ = some (.int .u8 21)) (c1 : w.cell? ⟨g, 6, none⟩ = some (.int .u8 s0)) (c2 : w.cell? ⟨g, 12, none⟩ = some (.int .u8 18)) (c3 : w.cell? ⟨g, 13, none⟩ = some (.int .u8 s1)) (hfl : (bits BinOp.or IntKind.u8 (bits BinOp.and IntKind.u8 s0 2) (bits BinOp.and IntKind.u8 s1 1) == 0) = false) :
    Calls Try.prog 37 #[.slice (some ⟨g, 0, none⟩) 2 2] w (ScanS 2 g 2 w) := by
  go_enter Try.func37, Try.ntmps37
  go_wp2
  go_quiet (fail)
  go_wp2
  go_quiet (fail)
  go_wp2
  go_ret2
  exact ⟨_, rfl, by simp; rfl⟩
set_option maxRecDepth 100000 in
set_option maxHeartbeats 1000000 in
theorem scan_lt_ne_ge3 (n : Nat) (hn : 3 ≤ n) (hn2 : (n : Int) ≤ 16384) (g : Nat) (k0 k1 s0 s1 : Int) (w : World) (x1 : (k1 == 18) = false) (c0 : w.cell? ⟨g, 5, none⟩ = some (.int .u8 21)) (c1 : w.cell? ⟨g, 6, none⟩ = some (.int .u8 s0)) (c2 : w.cell? ⟨g, 12, none⟩ = some (.int .u8 k1)) (c3 : w.cell? ⟨g, 13, none⟩ = some (.int .u8 s1)) :
    Calls Try.prog 37 #[.slice (some ⟨g, 0, none⟩) n n] w (ScanR n 21 k1 w) := by
  have q0 : (1 : Int) ≤ n := by omega
  have q1 : (2 : Int) ≤ n := by omega
  have d1 : decide ((1 : Int) ≤ n) = true := by simp; omega
  have d2 : decide ((2 : Int) ≤ n) = true := by simp; omega
  go_enter Try.func37, Try.ntmps37
  go_wp2
  go_quiet (fail)
  go_wp2
  go_quiet (fail)
  go_wp2
  go_ret2
  exact ⟨_, _, _, rfl, by simp; rfl, by omega, by omega, fun h => absurd h (by omega), fun h => absurd h (by omega)⟩
set_option maxRecDepth 100000 in
set_option maxHeartbeats 1000000 in
theorem scan_lt_yes_ge3 (n : Nat) (hn : 3 ≤ n) (hn2 : (n : Int) ≤ 16384) (g : Nat) (k0 k1 s0 s1 : Int) (w : World) (c0 : w.cell? ⟨g, 5, none⟩ = some (.int .u8 21)) (c1 : w.cell? ⟨g, 6, none⟩ = some (.int .u8 s0)) (c2 : w.cell? ⟨g, 12, none⟩ = some (.int .u8 18)) (c3 : w.cell? ⟨g, 13, none⟩ = some (.int .u8 s1)) (hfl : (bits BinOp.or IntKind.u8 (bits BinOp.and IntKind.u8 s0 2) (bits BinOp.and IntKind.u8 s1 1) == 0) = true) :
    Calls Try.prog 37 #[.slice (some ⟨g, 0, none⟩) n n] w (ScanR n 21 18 w) := by
  have q0 : (1 : Int) ≤ n := by omega
  have q1 : (2 : Int) ≤ n := by omega
  have d1 : decide ((1 : Int) ≤ n) = true := by simp; omega
  have d2 : decide ((2 : Int) ≤ n) = true := by simp; omega
  go_enter Try.func37, Try.ntmps37
  go_wp2
  go_quiet (fail)
  go_wp2
  go_quiet (fail)
  go_wp2
  go_ret2
  exact ⟨_, _, _, rfl, by simp; rfl, by omega, by omega, fun h => ⟨by omega, rfl, rfl⟩, fun h => absurd h (by omega)⟩
set_option maxRecDepth 100000 in
set_option maxHeartbeats 1000000 in
theorem scan_lt_split_ge3 (n : Nat) (hn : 3 ≤ n) (hn2 : (n : Int) ≤ 16384) (g : Nat) (k0 k1 s0 s1 : Int) (w : World) (c0 : w.cell? ⟨g, 5, none⟩ = some (.int .u8 21)) (c1 : w.cell? ⟨g, 6, none⟩ = some (.int .u8 s0)) (c2 : w.cell? ⟨g, 12, none⟩ = some (.int .u8 18)) (c3 : w.cell? ⟨g, 13, none⟩ = some (.int .u8 s1)) (hfl : (bits BinOp.or IntKind.u8 (bits BinOp.and IntKind.u8 s0 2) (bits BinOp.and IntKind.u8 s1 1) == 0) = false) :
    Calls Try.prog 37 #[.slice (some ⟨g, 0, none⟩) n n] w (ScanS 2 g n w) := by
  have q0 : (1 : Int) ≤ n := by omega
  have q1 : (2 : Int) ≤ n := by omega
  have d1 : decide ((1 : Int) ≤ n) = true := by simp; omega
  have d2 : decide ((2 : Int) ≤ n) = true := by simp; omega
  go_enter Try.func37, Try.ntmps37
  go_wp2
  go_quiet (fail)
  go_wp2
  go_quiet (fail)
  go_wp2
  go_ret2
  exact ⟨_, rfl, by simp; rfl⟩
set_option maxRecDepth 100000 in
set_option maxHeartbeats 1000000 in
theorem scan_gt_1 (g : Nat) (k0 k1 s0 s1 : Int) (w : World) (c0 : w.cell? ⟨g, 5, none⟩ = some (.int .u8 20)) (c1 : w.cell? ⟨g, 6, none⟩ = some (.int .u8 s0)) :
    Calls Try.prog 37 #[.slice (some ⟨g, 0, none⟩) 1 1] w (ScanR 1 20 k1 w) := by
  go_enter Try.func37, Try.ntmps37
  go_wp2
  go_quiet (fail)
  go_wp2
  go_quiet (fail)
  go_wp2
  go_ret2
  exact ⟨_, _, _, rfl, by simp; rfl, by omega, by omega, fun h => absurd h (by omega), fun h => absurd h (by omega)⟩
set_option maxRecDepth 100000 in
set_option maxHeartbeats 1000000 in
theorem scan_gt_ne_2 (g : Nat) (k0 k1 s0 s1 : Int) (w : World) (x1 : (k1 == 18) = false) (c0 : w.cell? ⟨g, 5, none⟩ = some (.int .u8 20)) (c1 : w.cell? ⟨g, 6, none⟩ = some (.int .u8 s0)) (c2 : w.cell? ⟨g, 12, none⟩ = some (.int .u8 k1)) (c3 : w.cell? ⟨g, 13, none⟩ = some (.int .u8 s1)) :
    Calls Try.prog 37 #[.slice (some ⟨g, 0, none⟩) 2 2] w (ScanR 2 20 k1 w) := by
  go_enter Try.func37, Try.ntmps37
  go_wp2
  go_quiet (fail)
  go_wp2
  go_quiet (fail)
  go_wp2
  go_ret2
  exact ⟨_, _, _, rfl, by simp; rfl, by omega, by omega, fun h => absurd h (by omega), fun h => absurd h (by omega)⟩
set_option maxRecDepth 100000 in
set_option maxHeartbeats 1000000 in
theorem scan_gt_yes_2 (g : Nat) (k0 k1 s0 s1 : Int) (w : World) (c0 : w.cell? ⟨g, 5, none⟩ = some (.int .u8 20)) (c1 : w.cell? ⟨g, 6, none⟩ = some (.int .u8 s0)) (c2 : w.cell? ⟨g, 12, none⟩ = some (.int .u8 18)) (c3 : w.cell? ⟨g, 13, none⟩ = some (.int .u8 s1)) (hfl : (bits BinOp.or IntKind.u8 (bits BinOp.and IntKind.u8 s0 2) (bits BinOp.and IntKind.u8 s1 1) == 0) = true) :
    Calls Try.prog 37 #[.slice (some ⟨g, 0, none⟩) 2 2] w (ScanR 2 20 18 w) := by
  go_enter Try.func37, Try.ntmps37
  go_wp2
  go_quiet (fail)
  go_wp2
  go_quiet (fail)
  go_wp2
  go_ret2
  exact ⟨_, _, _, rfl, by simp; rfl, by omega, by omega, fun h => absurd h (by omega), fun h => ⟨by omega, rfl, rfl⟩⟩
set_option maxRecDepth 100000 in
set_option maxHeartbeats 1000000 in
theorem scan_gt_split_2 (g : Nat) (k0 k1 s0 s1 : Int) (w : World) (c0 : w.cell? ⟨g, 5, none⟩ = some (.int .u8 20)) (c1 : w.cell? ⟨g, 6, none⟩ = some (.int .u8 s0)) (c2 : w.cell? ⟨g, 12, none⟩ = some (.int .u8 18)) (c3 : w.cell? ⟨g, 13, none⟩ = some (.int .u8 s1)) (hfl : (bits BinOp.or IntKind.u8 (bits BinOp.and IntKind.u8 s0 2) (bits BinOp.and IntKind.u8 s1 1) == 0) = false) :
    Calls Try.prog 37 #[.slice (some ⟨g, 0, none⟩) 2 2] w (ScanS 4 g 2 w) := by
  go_enter Try.func37, Try.ntmps37
  go_wp2
  go_quiet (fail)
  go_wp2
  go_quiet (fail)
  go_wp2
  go_ret2
  exact ⟨_, rfl, by simp; rfl⟩
set_option maxRecDepth 100000 in
set_option maxHeartbeats 1000000 in
theorem scan_gt_ne_ge3 (n : Nat) (hn : 3 ≤ n) (hn2 : (n : Int) ≤ 16384) (g : Nat) (k0 k1 s0 s1 : Int) (w : World) (x1 : (k1 == 18) = false) (c0 : w.cell? ⟨g, 5, none⟩ = some (.int .u8 20)) (c1 : w.cell? ⟨g, 6, none⟩ = some (.int .u8 s0)) (c2 : w.cell? ⟨g, 12, none⟩ = some (.int .u8 k1)) (c3 : w.cell? ⟨g, 13, none⟩ = some (.int .u8 s1)) :
    Calls Try.prog 37 #[.slice (some ⟨g, 0, none⟩) n n] w (ScanR n 20 k1 w) := by
  have q0 : (1 : Int) ≤ n := by omega
  have q1 : (2 : Int) ≤ n := by omega
  have d1 : decide ((1 : Int) ≤ n) = true := by simp; omega
  have d2 : decide ((2 : Int) ≤ n) = true := by simp; omega
  go_enter Try.func37, Try.ntmps37
  go_wp2
  go_quiet (fail)
  go_wp2
  go_quiet (fail)
  go_wp2
  go_ret2
  exact ⟨_, _, _, rfl, by simp; rfl, by omega, by omega, fun h => absurd h (by omega), fun h => absurd h (by omega)⟩
set_option maxRecDepth 100000 in
set_option maxHeartbeats 1000000 in
theorem scan_gt_yes_ge3 (n : Nat) (hn : 3 ≤ n) (hn2 : (n : Int) ≤ 16384) (g : Nat) (k0 k1 s0 s1 : Int) (w : World) (c0 : w.cell? ⟨g, 5, none⟩ = some (.int .u8 20)) (c1 : w.cell? ⟨g, 6, none⟩ = some (.int .u8 s0)) (c2 : w.cell? ⟨g, 12, none⟩ = some (.int .u8 18)) (c3 : w.cell? ⟨g, 13, none⟩ = some (.int .u8 s1)) (hfl : (bits BinOp.or IntKind.u8 (bits BinOp.and IntKind.u8 s0 2) (bits BinOp.and IntKind.u8 s1 1) == 0) = true) :
    Calls Try.prog 37 #[.slice (some ⟨g, 0, none⟩) n n] w (ScanR n 20 18 w) := by
  have q0 : (1 : Int) ≤ n := by omega
  have q1 : (2 : Int) ≤ n := by omega
  have d1 : decide ((1 : Int) ≤ n) = true := by simp; omega
  have d2 : decide ((2 : Int) ≤ n) = true := by simp; omega
  go_enter Try.func37, Try.ntmps37
  go_wp2
  go_quiet (fail)
  go_wp2
  go_quiet (fail)
  go_wp2
  go_ret2
  exact ⟨_, _, _, rfl, by simp; rfl, by omega, by omega, fun h => absurd h (by omega), fun h => ⟨by omega, rfl, rfl⟩⟩
set_option maxRecDepth 100000 in
set_option maxHeartbeats 1000000 in
theorem scan_gt_split_ge3 (n : Nat) (hn : 3 ≤ n) (hn2 : (n : Int) ≤ 16384) (g : Nat) (k0 k1 s0 s1 : Int) (w : World) (c0 : w.cell? ⟨g, 5, none⟩ = some (.int .u8 20)) (c1 : w.cell? ⟨g, 6, none⟩ = some (.int .u8 s0)) (c2 : w.cell? ⟨g, 12, none⟩ = some (.int .u8 18)) (c3 : w.cell? ⟨g, 13, none⟩ = some (.int .u8 s1)) (hfl : (bits BinOp.or IntKind.u8 (bits BinOp.and IntKind.u8 s0 2) (bits BinOp.and IntKind.u8 s1 1) == 0) = false) :
    Calls Try.prog 37 #[.slice (some ⟨g, 0, none⟩) n n] w (ScanS 4 g n w) := by
  have q0 : (1 : Int) ≤ n := by omega
  have q1 : (2 : Int) ≤ n := by omega
  have d1 : decide ((1 : Int) ≤ n) = true := by simp; omega
  have d2 : decide ((2 : Int) ≤ n) = true := by simp; omega
  go_enter Try.func37, Try.ntmps37
  go_wp2
  go_quiet (fail)
  go_wp2
  go_quiet (fail)
  go_wp2
  go_ret2
  exact ⟨_, rfl, by simp; rfl⟩
end Go.Proofs.Ytfbmomnfbkdbbaa.Scan
