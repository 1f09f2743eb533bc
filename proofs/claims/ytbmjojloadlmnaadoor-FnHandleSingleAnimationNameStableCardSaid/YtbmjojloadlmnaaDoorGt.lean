/-
  The gate on the total length.
-/
import Derived.Test.YtbmjojloadlmnaaDoorZz
namespace Go.Proofs.YtbmjojloadlmnaaDoor.Sy
open Go.ChangeShapes Go.WideShapes Go.ChangeAt Go.RowKit Rg
set_option linter.unusedVariables false
def ZB (Q : Prop) (w : World) (e : Ending) (w' : World) : Prop := (∃ r : Bool, e = .returned (.bool r) ∧ (r = true → Q)) ∧ w = w'
set_option maxRecDepth 100000 in
set_option maxHeartbeats 2000000 in
theorem gate_any (a1 a2 : Option Addr) (n1 c1 n2 c2 : Nat) (T : Nat → ByteArray) (k : Int) (s : ByteArray) (ml : Bool) (w : World) (h1 : (n1 : Int) ≤ 9223372036854775807) (h2 : (n2 : Int) ≤ 9223372036854775807) (h : Sl w a2 n2 (fun i => .string (T i))) (hz : ∀ i, i < n2 → ((T i).size : Int) ≤ 9223372036854775807) (hs : (s.size : Int) ≤ 9223372036854775807) :
    Calls Tryd.prog 4 #[.slice a1 n1 c1, .slice a2 n2 c2, .int .u8 k, .string s, .bool ml] w (ZB ((n1 : Int) ≤ 1048576 ∧ (n2 : Int) ≤ 1048576 ∧ (∀ i, i < n2 → ((T i).size : Int) ≤ 1048576) ∧ (s.size : Int) ≤ 1048576) w) := by
  have HS := Lib.hid h
  have HZ := Lib.hid hz
  clear h hz
  go_enter Tryd.func4, Tryd.ntmps4
  by_cases g1 : (1048576 : Int) < n1
  · go_wp2_with fail
    go_ret
    exact ⟨⟨false, rfl, fun h => by cases h⟩, rfl⟩
  by_cases g2 : (1048576 : Int) < n2
  · go_wp2_with fail
    all_goals go_ret
    all_goals exact ⟨⟨false, rfl, fun h => by cases h⟩, rfl⟩
  by_cases g3 : (1048576 : Int) < n1 + n2
  · go_wp2_with fail
    go_ret
    exact ⟨⟨false, rfl, fun h => by cases h⟩, rfl⟩
  go_wp2_with fail
  go_loop [11, 12] (fun t i => ∃ (j0 : Nat) (t0 : Int), j0 ≤ n2 ∧ i = .int .i64 j0 ∧ t = .int .i64 t0 ∧ 0 ≤ t0 ∧ t0 ≤ 1048576 ∧ Hid (∀ j, j < j0 → ((T j).size : Int) ≤ 1048576)) (fun _ i => n2 - (intOf i).toNat)
  case atStart => exact ⟨0, _, Nat.zero_le _, rfl, rfl, by omega, by omega, Lib.hid fun j hj => by omega⟩
  case round =>
    obtain ⟨j0, t0, hk, rfl, rfl, hs0, hs1, HJ⟩ := hrel
    by_cases hlt : j0 < n2
    · obtain ⟨ab, ao, rfl, d⟩ := HS.out j0 hlt
      have q0 : (0 : Int) ≤ j0 := by omega
      have q1 : (j0 : Int) < n2 := by omega
      have q2 := HZ.out j0 hlt
      by_cases p3 : (1048576 : Int) < (T j0).size
      · go_wp2_with fail
        go_ret
        exact ⟨⟨false, rfl, fun h => by cases h⟩, rfl⟩
      by_cases p4 : (1048576 : Int) < t0 + (T j0).size
      · go_wp2_with fail
        go_ret
        exact ⟨⟨false, rfl, fun h => by cases h⟩, rfl⟩
      have HJ2 : Hid (∀ j, j < j0 + 1 → ((T j).size : Int) ≤ 1048576) := Lib.hid fun j hj => by
        by_cases e : j = j0
        · subst e; omega
        · exact HJ.out j (by omega)
      clear HJ
      go_wp2_with fail
      go_round
      case rel => exact ⟨j0 + 1, _, by omega, by go_num, rfl, by omega, by omega, HJ2⟩
      case measure => simp [intOf]; omega
    · obtain rfl : j0 = n2 := by omega
      by_cases g5 : (1048576 : Int) < s.size
      · go_wp2_with fail
        go_ret
        exact ⟨⟨false, rfl, fun h => by cases h⟩, rfl⟩
      by_cases g6 : (1048576 : Int) < t0 + s.size
      · go_wp2_with fail
        go_ret
        exact ⟨⟨false, rfl, fun h => by cases h⟩, rfl⟩
      go_wp2_with fail
      go_ret
      exact ⟨⟨true, rfl, fun _ => by first | exact HJ.out | exact ⟨by omega, by omega, HJ.out, by omega⟩⟩, rfl⟩
end Go.Proofs.YtbmjojloadlmnaaDoor.Sy
