/-
  The gate on the total length.
-/
import Derived.Test.YtppgilppnnliiaaDoorZz
namespace Go.Proofs.YtppgilppnnliiaaDoor.Sy
open Go.ChangeShapes Go.WideShapes Go.ChangeAt Go.RowKit Rg
set_option linter.unusedVariables false
def ZB (Q : Prop) (w : World) (e : Ending) (w' : World) : Prop := (∃ r : Bool, e = .returned (.bool r) ∧ (r = true → Q)) ∧ w = w'
set_option maxRecDepth 100000 in
set_option maxHeartbeats 2000000 in
theorem gate_any (a1 a2 : Option Addr) (n1 c1 n2 c2 : Nat) (T : Nat → ByteArray) (ml : Bool) (w : World) (h1 : (n1 : Int) ≤ 9223372036854775807) (h2 : (n2 : Int) ≤ 9223372036854775807) (h : Sl w a2 n2 (fun i => .string (T i))) (hz : ∀ i, i < n2 → ((T i).size : Int) ≤ 9223372036854775807) :
    Calls Tryd.prog 4 #[.slice a1 n1 c1, .slice a2 n2 c2, .bool ml] w (ZB ((n1 : Int) ≤ 1048576 ∧ (n2 : Int) ≤ 1048576 ∧ (∀ i, i < n2 → ((T i).size : Int) ≤ 1048576)) w) := by
  have HS := Lib.hid h
  have HZ := Lib.hid hz
  clear h hz
  go_enter Tryd.func4, Tryd.ntmps4
  by_cases g1 : (1048576 : Int) < n1
  · go_wp2_with fail
    go_ret
    exact ⟨⟨false, rfl, fun h => by cases h⟩, rfl⟩
  by_cases g2 : (1048576 : Int) < n2
  · go_wp2_with fail
    all_goals go_ret
    all_goals exact ⟨⟨false, rfl, fun h => by cases h⟩, rfl⟩
  by_cases g3 : (1048576 : Int) < n1 + n2
  · go_wp2_with fail
    go_ret
    exact ⟨⟨false, rfl, fun h => by cases h⟩, rfl⟩
  go_wp2_with fail
  go_loop [7, 8] (fun t i => ∃ (k : Nat) (s : Int), k ≤ n2 ∧ i = .int .i64 k ∧ t = .int .i64 s ∧ 0 ≤ s ∧ s ≤ 1048576 ∧ Hid (∀ j, j < k → ((T j).size : Int) ≤ 1048576)) (fun _ i => n2 - (intOf i).toNat)
  case atStart => exact ⟨0, _, Nat.zero_le _, rfl, rfl, by omega, by omega, Lib.hid fun j hj => by omega⟩
  case round =>
    obtain ⟨k, s, hk, rfl, rfl, hs0, hs1, HJ⟩ := hrel
    by_cases hlt : k < n2
    · obtain ⟨ab, ao, rfl, d⟩ := HS.out k hlt
      have q0 : (0 : Int) ≤ k := by omega
      have q1 : (k : Int) < n2 := by omega
      have q2 := HZ.out k hlt
      by_cases p3 : (1048576 : Int) < (T k).size
      · go_wp2_with fail
        go_ret
        exact ⟨⟨false, rfl, fun h => by cases h⟩, rfl⟩
      by_cases p4 : (1048576 : Int) < s + (T k).size
      · go_wp2_with fail
        go_ret
        exact ⟨⟨false, rfl, fun h => by cases h⟩, rfl⟩
      have HJ2 : Hid (∀ j, j < k + 1 → ((T j).size : Int) ≤ 1048576) := Lib.hid fun j hj => by
        by_cases e : j = k
        · subst e; omega
        · exact HJ.out j (by omega)
      clear HJ
      go_wp2_with fail
      go_round
      case rel => exact ⟨k + 1, _, by omega, by go_num, rfl, by omega, by omega, HJ2⟩
      case measure => simp [intOf]; omega
    · obtain rfl : k = n2 := by omega
      go_wp2_with fail
      go_ret
      exact ⟨⟨true, rfl, fun _ => by first | exact HJ.out | exact ⟨by omega, by omega, HJ.out⟩⟩, rfl⟩
end Go.Proofs.YtppgilppnnliiaaDoor.Sy
