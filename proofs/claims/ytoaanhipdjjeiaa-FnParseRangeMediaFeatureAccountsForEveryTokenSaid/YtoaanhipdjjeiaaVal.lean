import Derived.Test.YtoaanhipdjjeiaaTok
namespace Go.Proofs.Ytoaanhipdjjeiaa.Scan
open Go.ChangeShapes Go.WideShapes Go.ChangeAt Go.RowKit Go.Deep
set_option linter.unusedVariables false
/-- the answer k of scanMediaValue over m tokens at offset o of block g; the world is trimmed at cells o + 6 and q -/
def VW (g o m k q : Nat) (w : World) (e : Ending) (w' : World) : Prop :=
  ∃ (A' : Option Addr) (nq : Nat) (x y : Int), e = .returned (.tuple #[.slice (some ⟨g, o, none⟩) k m, .slice A' (m - k) (m - k)]) ∧ (0 < m - k → A' = some ⟨g, o + k * 7, none⟩) ∧ w' = ((w.setCell ⟨g, o + 6, none⟩ (.int .u8 x)).setCell ⟨g, q, none⟩ (.int .u8 y)).drewN nq
def V0 (A : Option Addr) (m : Nat) (w : World) (e : Ending) (w' : World) : Prop :=
  ∃ nq, e = .returned (.tuple #[.slice A 0 m, .slice A m m]) ∧ w' = w.drewN nq
set_option maxRecDepth 100000 in
set_option maxHeartbeats 1000000 in
theorem val_m0 (A : Option Addr) (w : World) : Calls Try.prog 14 #[.slice A 0 0] w (V0 A 0 w) := by
  go_enter Try.func14, Try.ntmps14
  go_wp2
  go_quiet (fail)
  go_wp2
  go_ret2
  exact ⟨_, rfl, rfl⟩
set_option maxRecDepth 100000 in
set_option maxHeartbeats 1000000 in
theorem val_none (m : Nat) (hm : 1 ≤ m) (hm2 : (m : Int) ≤ 16384) (g o : Nat) (k0 s0 k1 k2 s2 : Int) (w : World) (c0 : w.cell? ⟨g, o + 5, none⟩ = some (.int .u8 k0)) (c1 : w.cell? ⟨g, o + 6, none⟩ = some (.int .u8 s0)) (hf : ∀ i, w.frozen? ⟨g, i, none⟩ = false) (x1 : (k0 == 26) = false) (x2 : (k0 == 29) = false) (x3 : (k0 == 30) = false) : Calls Try.prog 14 #[.slice (some ⟨g, o, none⟩) m m] w (V0 (some ⟨g, o, none⟩) m w) := by
  have q0 : (1 : Int) ≤ m := by omega
  have q2 : (0 : Int) < m := by omega
  have q3 : ¬ m = 0 := by omega
  go_enter Try.func14, Try.ntmps14
  go_wp2
  go_quiet (fail)
  go_wp2
  go_ret2
  exact ⟨_, rfl, rfl⟩
set_option maxRecDepth 100000 in
set_option maxHeartbeats 1000000 in
theorem val_26_1 (g o : Nat) (k0 s0 k1 k2 s2 : Int) (w : World) (c0 : w.cell? ⟨g, o + 5, none⟩ = some (.int .u8 26)) (c1 : w.cell? ⟨g, o + 6, none⟩ = some (.int .u8 s0)) (hf : ∀ i, w.frozen? ⟨g, i, none⟩ = false) : Calls Try.prog 14 #[.slice (some ⟨g, o, none⟩) 1 1] w (VW g o 1 1 (o + 6) w) := by
  go_enter Try.func14, Try.ntmps14
  go_wp2
  go_quiet (fail)
  go_wp2
  go_ret2
  exact ⟨_, _, _, _, rfl, fun h => by first | rfl | omega, rfl⟩
set_option maxRecDepth 100000 in
set_option maxHeartbeats 1000000 in
theorem val_26_2 (g o : Nat) (k0 s0 k1 k2 s2 : Int) (w : World) (c0 : w.cell? ⟨g, o + 5, none⟩ = some (.int .u8 26)) (c1 : w.cell? ⟨g, o + 6, none⟩ = some (.int .u8 s0)) (hf : ∀ i, w.frozen? ⟨g, i, none⟩ = false) : Calls Try.prog 14 #[.slice (some ⟨g, o, none⟩) 2 2] w (VW g o 2 1 (o + 6) w) := by
  go_enter Try.func14, Try.ntmps14
  go_wp2
  go_quiet (fail)
  go_wp2
  go_ret2
  exact ⟨_, _, _, _, rfl, fun h => by first | rfl | omega, rfl⟩
set_option maxRecDepth 100000 in
set_option maxHeartbeats 1000000 in
theorem val_26_m (m : Nat) (hm : 3 ≤ m) (hm2 : (m : Int) ≤ 16384) (g o : Nat) (k0 s0 k1 k2 s2 : Int) (w : World) (c0 : w.cell? ⟨g, o + 5, none⟩ = some (.int .u8 26)) (c1 : w.cell? ⟨g, o + 6, none⟩ = some (.int .u8 s0)) (hf : ∀ i, w.frozen? ⟨g, i, none⟩ = false) : Calls Try.prog 14 #[.slice (some ⟨g, o, none⟩) m m] w (VW g o m 1 (o + 6) w) := by
  have q0 : (1 : Int) ≤ m := by omega
  have q1 : (3 : Int) ≤ m := by omega
  have q2 : (0 : Int) < m := by omega
  have q3 : (1 : Int) < m := by omega
  have q4 : ((m - 1 : Nat) : Int) = (m : Int) - 1 := by omega
  have q5 : ((m - 3 : Nat) : Int) = (m : Int) - 3 := by omega
  have q6 : ¬ m = 1 := by omega
  have q7 : (2 : Int) < m := by omega
  go_enter Try.func14, Try.ntmps14
  go_wp2
  go_quiet (fail)
  go_wp2
  go_ret2
  exact ⟨_, _, _, _, rfl, fun h => by first | rfl | omega, rfl⟩
set_option maxRecDepth 100000 in
set_option maxHeartbeats 1000000 in
theorem val_29_1 (g o : Nat) (k0 s0 k1 k2 s2 : Int) (w : World) (c0 : w.cell? ⟨g, o + 5, none⟩ = some (.int .u8 29)) (c1 : w.cell? ⟨g, o + 6, none⟩ = some (.int .u8 s0)) (hf : ∀ i, w.frozen? ⟨g, i, none⟩ = false) : Calls Try.prog 14 #[.slice (some ⟨g, o, none⟩) 1 1] w (VW g o 1 1 (o + 6) w) := by
  go_enter Try.func14, Try.ntmps14
  go_wp2
  go_quiet (fail)
  go_wp2
  go_ret2
  exact ⟨_, _, _, _, rfl, fun h => by first | rfl | omega, rfl⟩
set_option maxRecDepth 100000 in
set_option maxHeartbeats 1000000 in
theorem val_29_2 (g o : Nat) (k0 s0 k1 k2 s2 : Int) (w : World) (c0 : w.cell? ⟨g, o + 5, none⟩ = some (.int .u8 29)) (c1 : w.cell? ⟨g, o + 6, none⟩ = some (.int .u8 s0)) (hf : ∀ i, w.frozen? ⟨g, i, none⟩ = false) : Calls Try.prog 14 #[.slice (some ⟨g, o, none⟩) 2 2] w (VW g o 2 1 (o + 6) w) := by
  go_enter Try.func14, Try.ntmps14
  go_wp2
  go_quiet (fail)
  go_wp2
  go_ret2
  exact ⟨_, _, _, _, rfl, fun h => by first | rfl | omega, rfl⟩
set_option maxRecDepth 100000 in
set_option maxHeartbeats 1000000 in
theorem val_29_m (m : Nat) (hm : 3 ≤ m) (hm2 : (m : Int) ≤ 16384) (g o : Nat) (k0 s0 k1 k2 s2 : Int) (w : World) (c0 : w.cell? ⟨g, o + 5, none⟩ = some (.int .u8 29)) (c1 : w.cell? ⟨g, o + 6, none⟩ = some (.int .u8 s0)) (hf : ∀ i, w.frozen? ⟨g, i, none⟩ = false) : Calls Try.prog 14 #[.slice (some ⟨g, o, none⟩) m m] w (VW g o m 1 (o + 6) w) := by
  have q0 : (1 : Int) ≤ m := by omega
  have q1 : (3 : Int) ≤ m := by omega
  have q2 : (0 : Int) < m := by omega
  have q3 : (1 : Int) < m := by omega
  have q4 : ((m - 1 : Nat) : Int) = (m : Int) - 1 := by omega
  have q5 : ((m - 3 : Nat) : Int) = (m : Int) - 3 := by omega
  have q6 : ¬ m = 1 := by omega
  have q7 : (2 : Int) < m := by omega
  go_enter Try.func14, Try.ntmps14
  go_wp2
  go_quiet (fail)
  go_wp2
  go_ret2
  exact ⟨_, _, _, _, rfl, fun h => by first | rfl | omega, rfl⟩
set_option maxRecDepth 100000 in
set_option maxHeartbeats 1000000 in
theorem val_30_1 (g o : Nat) (k0 s0 k1 k2 s2 : Int) (w : World) (c0 : w.cell? ⟨g, o + 5, none⟩ = some (.int .u8 30)) (c1 : w.cell? ⟨g, o + 6, none⟩ = some (.int .u8 s0)) (hf : ∀ i, w.frozen? ⟨g, i, none⟩ = false) : Calls Try.prog 14 #[.slice (some ⟨g, o, none⟩) 1 1] w (VW g o 1 1 (o + 6) w) := by
  go_enter Try.func14, Try.ntmps14
  go_wp2
  go_quiet (fail)
  go_wp2
  go_ret2
  exact ⟨_, _, _, _, rfl, fun h => by first | rfl | omega, rfl⟩
set_option maxRecDepth 100000 in
set_option maxHeartbeats 1000000 in
theorem val_30_2 (g o : Nat) (k0 s0 k1 k2 s2 : Int) (w : World) (c0 : w.cell? ⟨g, o + 5, none⟩ = some (.int .u8 30)) (c1 : w.cell? ⟨g, o + 6, none⟩ = some (.int .u8 s0)) (hf : ∀ i, w.frozen? ⟨g, i, none⟩ = false) : Calls Try.prog 14 #[.slice (some ⟨g, o, none⟩) 2 2] w (VW g o 2 1 (o + 6) w) := by
  go_enter Try.func14, Try.ntmps14
  go_wp2
  go_quiet (fail)
  go_wp2
  go_ret2
  exact ⟨_, _, _, _, rfl, fun h => by first | rfl | omega, rfl⟩
set_option maxRecDepth 100000 in
set_option maxHeartbeats 1000000 in
theorem val_30_ma (m : Nat) (hm : 3 ≤ m) (hm2 : (m : Int) ≤ 16384) (g o : Nat) (k0 s0 k1 k2 s2 : Int) (w : World) (c0 : w.cell? ⟨g, o + 5, none⟩ = some (.int .u8 30)) (c1 : w.cell? ⟨g, o + 6, none⟩ = some (.int .u8 s0)) (hf : ∀ i, w.frozen? ⟨g, i, none⟩ = false) (c2 : w.cell? ⟨g, o + 12, none⟩ = some (.int .u8 k1)) (x1 : (k1 == 24) = false) : Calls Try.prog 14 #[.slice (some ⟨g, o, none⟩) m m] w (VW g o m 1 (o + 6) w) := by
  have q0 : (1 : Int) ≤ m := by omega
  have q1 : (3 : Int) ≤ m := by omega
  have q2 : (0 : Int) < m := by omega
  have q3 : (1 : Int) < m := by omega
  have q4 : ((m - 1 : Nat) : Int) = (m : Int) - 1 := by omega
  have q5 : ((m - 3 : Nat) : Int) = (m : Int) - 3 := by omega
  have q6 : ¬ m = 1 := by omega
  have q7 : (2 : Int) < m := by omega
  go_enter Try.func14, Try.ntmps14
  go_wp2
  go_quiet (fail)
  go_wp2
  go_ret2
  exact ⟨_, _, _, _, rfl, fun h => by first | rfl | omega, rfl⟩
set_option maxRecDepth 100000 in
set_option maxHeartbeats 1000000 in
theorem val_30_mb (m : Nat) (hm : 3 ≤ m) (hm2 : (m : Int) ≤ 16384) (g o : Nat) (k0 s0 k1 k2 s2 : Int) (w : World) (c0 : w.cell? ⟨g, o + 5, none⟩ = some (.int .u8 30)) (c1 : w.cell? ⟨g, o + 6, none⟩ = some (.int .u8 s0)) (hf : ∀ i, w.frozen? ⟨g, i, none⟩ = false) (c2 : w.cell? ⟨g, o + 12, none⟩ = some (.int .u8 24)) (c3 : w.cell? ⟨g, o + 19, none⟩ = some (.int .u8 k2)) (x1 : (k2 == 30) = false) : Calls Try.prog 14 #[.slice (some ⟨g, o, none⟩) m m] w (VW g o m 1 (o + 6) w) := by
  have q0 : (1 : Int) ≤ m := by omega
  have q1 : (3 : Int) ≤ m := by omega
  have q2 : (0 : Int) < m := by omega
  have q3 : (1 : Int) < m := by omega
  have q4 : ((m - 1 : Nat) : Int) = (m : Int) - 1 := by omega
  have q5 : ((m - 3 : Nat) : Int) = (m : Int) - 3 := by omega
  have q6 : ¬ m = 1 := by omega
  have q7 : (2 : Int) < m := by omega
  go_enter Try.func14, Try.ntmps14
  go_wp2
  go_quiet (fail)
  go_wp2
  go_ret2
  exact ⟨_, _, _, _, rfl, fun h => by first | rfl | omega, rfl⟩
set_option maxRecDepth 100000 in
set_option maxHeartbeats 1000000 in
theorem val_30_r3 (g o : Nat) (k0 s0 k1 k2 s2 : Int) (w : World) (c0 : w.cell? ⟨g, o + 5, none⟩ = some (.int .u8 30)) (c1 : w.cell? ⟨g, o + 6, none⟩ = some (.int .u8 s0)) (hf : ∀ i, w.frozen? ⟨g, i, none⟩ = false) (c2 : w.cell? ⟨g, o + 12, none⟩ = some (.int .u8 24)) (c3 : w.cell? ⟨g, o + 19, none⟩ = some (.int .u8 30)) (c4 : w.cell? ⟨g, o + 20, none⟩ = some (.int .u8 s2)) : Calls Try.prog 14 #[.slice (some ⟨g, o, none⟩) 3 3] w (VW g o 3 3 (o + 20) w) := by
  go_enter Try.func14, Try.ntmps14
  go_wp2
  go_quiet (fail)
  go_wp2
  go_ret2
  exact ⟨_, _, _, _, rfl, fun h => by first | rfl | omega, rfl⟩
set_option maxRecDepth 100000 in
set_option maxHeartbeats 1000000 in
theorem val_30_rm (m : Nat) (hm : 4 ≤ m) (hm2 : (m : Int) ≤ 16384) (g o : Nat) (k0 s0 k1 k2 s2 : Int) (w : World) (c0 : w.cell? ⟨g, o + 5, none⟩ = some (.int .u8 30)) (c1 : w.cell? ⟨g, o + 6, none⟩ = some (.int .u8 s0)) (hf : ∀ i, w.frozen? ⟨g, i, none⟩ = false) (c2 : w.cell? ⟨g, o + 12, none⟩ = some (.int .u8 24)) (c3 : w.cell? ⟨g, o + 19, none⟩ = some (.int .u8 30)) (c4 : w.cell? ⟨g, o + 20, none⟩ = some (.int .u8 s2)) : Calls Try.prog 14 #[.slice (some ⟨g, o, none⟩) m m] w (VW g o m 3 (o + 20) w) := by
  have q0 : (1 : Int) ≤ m := by omega
  have q1 : (3 : Int) ≤ m := by omega
  have q2 : (0 : Int) < m := by omega
  have q3 : (1 : Int) < m := by omega
  have q4 : ((m - 1 : Nat) : Int) = (m : Int) - 1 := by omega
  have q5 : ((m - 3 : Nat) : Int) = (m : Int) - 3 := by omega
  have q6 : ¬ m = 1 := by omega
  have q7 : (2 : Int) < m := by omega
  have q8 : ¬ m = 3 := by omega
  go_enter Try.func14, Try.ntmps14
  go_wp2
  go_quiet (fail)
  go_wp2
  go_ret2
  exact ⟨_, _, _, _, rfl, fun h => by first | rfl | omega, rfl⟩
end Go.Proofs.Ytoaanhipdjjeiaa.Scan
