import Derived.Test.YtoaanhipdjjeiaaScan
import Derived.WalkLawsBesides
import Derived.RegionTactic
import Derived.Deep.QuietTactic
import Derived.BigQuiet
import Derived.OwnWalk
import Derived.WalkSpells
namespace Go.Proofs.Ytoaanhipdjjeiaa.Scan
open Go.ChangeShapes Go.WideShapes Go.ChangeAt Go.RowKit Go.Deep
set_option linter.unusedVariables false
set_option maxRecDepth 100000 in
set_option maxHeartbeats 1000000 in
theorem size_any (a : Option Addr) (n c : Nat) (K S L : Nat → Int) (T : Nat → ByteArray) (w : World) (h : Toks w a n K S L T) :
    Calls Try.prog 5 #[.slice a n c] w fun e w' => (∃ r : Int, e = .returned (.int .i64 r) ∧ (r ≤ 1048576 → n ≤ 16384)) ∧ w = w' := by
  have H := Lib.hid h
  clear h
  by_cases hn : (n : Int) ≤ 16384
  case neg =>
    go_enter Try.func5, Try.ntmps5
    go_wp2
    go_ret
    exact ⟨⟨_, rfl, fun h => by omega⟩, rfl⟩
  go_enter Try.func5, Try.ntmps5
  go_wp2
  go_loopw [3, 4] (fun s i wr => wr = w ∧ (∃ j : Nat, j ≤ n ∧ i = .int .i64 j) ∧ ∃ r : Int, s = .int .i64 r ∧ 0 ≤ r ∧ r ≤ 1048576) (fun _ i _ => n - (intOf i).toNat)
  case atStart => exact ⟨rfl, ⟨0, Nat.zero_le _, rfl⟩, _, rfl, by omega, by omega⟩
  case round =>
    obtain ⟨rfl, ⟨j, hj, rfl⟩, r, rfl, r0, r1⟩ := hrel
    by_cases hlt : j < n
    · obtain ⟨ab, ao, rfl, ⟨e0, e1, e2, e3⟩, q1, q2, q3⟩ := H.out j hlt
      have p0 : (0 : Int) ≤ j := by omega
      have p1 : (j : Int) < n := by omega
      clear q1 q2 q3 e0 e2 e3 H
      by_cases p2 : ((T j).size : Int) ≤ 1048576
      case neg =>
        go_wp2
        go_ret
        exact ⟨⟨_, rfl, fun h => by omega⟩, rfl⟩
      by_cases p3 : r + ((T j).size : Int) ≤ 1048576
      case neg =>
        go_wp2
        go_ret
        exact ⟨⟨_, rfl, fun h => by omega⟩, rfl⟩
      go_wp2
      go_roundw
      case rel => exact ⟨by first | rfl | trivial, ⟨j + 1, by omega, by go_num⟩, _, rfl, by omega, by omega⟩
      case measure => simp [intOf]; omega
    · go_wp2
      go_ret
      exact ⟨⟨_, rfl, fun h => by omega⟩, rfl⟩
def SomeBool (e : Ending) : Prop := ∃ r : Bool, e = .returned (.bool r)
set_option maxRecDepth 100000 in
set_option maxHeartbeats 1000000 in
theorem bytes_any (a : Option Addr) (n c : Nat) (K S L : Nat → Int) (T : Nat → ByteArray) (w : World) (h : Toks w a n K S L T) :
    Calls Try.prog 4 #[.slice a n c] w fun e w' => SomeBool e ∧ w = w' := by
  have H := Lib.hid h
  clear h
  by_cases hn : (n : Int) ≤ 1048576
  case neg =>
    go_enter Try.func4, Try.ntmps4
    go_wp2
    go_ret
    exact ⟨⟨_, rfl⟩, rfl⟩
  go_enter Try.func4, Try.ntmps4
  go_wp2
  go_loopw [3, 4] (fun s i wr => wr = w ∧ (∃ j : Nat, j ≤ n ∧ i = .int .i64 j) ∧ ∃ r : Int, s = .int .i64 r ∧ 0 ≤ r ∧ r ≤ 1048576) (fun _ i _ => n - (intOf i).toNat)
  case atStart => exact ⟨rfl, ⟨0, Nat.zero_le _, rfl⟩, _, rfl, by omega, by omega⟩
  case round =>
    obtain ⟨rfl, ⟨j, hj, rfl⟩, r, rfl, r0, r1⟩ := hrel
    by_cases hlt : j < n
    · obtain ⟨ab, ao, rfl, ⟨e0, e1, e2, e3⟩, q1, q2, q3⟩ := H.out j hlt
      have p0 : (0 : Int) ≤ j := by omega
      have p1 : (j : Int) < n := by omega
      clear q1 q2 q3 e0 e2 e3 H
      by_cases p2 : ((T j).size : Int) ≤ 1048576
      case neg =>
        go_wp2
        go_ret
        exact ⟨⟨_, rfl⟩, rfl⟩
      by_cases p3 : r + ((T j).size : Int) ≤ 1048576
      case neg =>
        go_wp2
        go_ret
        exact ⟨⟨_, rfl⟩, rfl⟩
      go_wp2
      go_roundw
      case rel => exact ⟨by first | rfl | trivial, ⟨j + 1, by omega, by go_num⟩, _, rfl, by omega, by omega⟩
      case measure => simp [intOf]; omega
    · go_wp2
      go_ret
      exact ⟨⟨_, rfl⟩, rfl⟩
end Go.Proofs.Ytoaanhipdjjeiaa.Scan
