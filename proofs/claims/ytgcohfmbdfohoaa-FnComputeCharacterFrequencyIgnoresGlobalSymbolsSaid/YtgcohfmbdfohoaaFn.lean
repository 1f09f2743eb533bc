/-
  zzBytes, zzMinCssB1.
-/
import Derived.Test.YtgcohfmbdfohoaaCf
namespace Go.Proofs.Ytgcohfmbdfohoaa.Fq
open Go.ChangeShapes Go.WideShapes Go.ChangeAt Go.RowKit Rg
set_option linter.unusedVariables false
def ZB (Q : Prop) (w : World) (e : Ending) (w' : World) : Prop := (∃ r : Bool, e = .returned (.bool r) ∧ (r = true → Q)) ∧ w = w'
set_option maxRecDepth 100000 in
set_option maxHeartbeats 2000000 in
theorem bytes42 (C : ByteArray) (m : Bool) (a : Option Addr) (n c : Nat) (T : Nat → ByteArray) (a2 : Option Addr) (n2 c2 : Nat) (a3 : Option Addr) (n3 c3 : Nat) (w : World) (hC : (C.size : Int) ≤ 9223372036854775807) (hn : (n : Int) ≤ 9223372036854775807) (hsa : Sl w a n (fun i => .string (T i))) (hza : ∀ i, i < n → ((T i).size : Int) ≤ 9223372036854775807) (hn2 : (n2 : Int) ≤ 9223372036854775807) (hn3 : (n3 : Int) ≤ 9223372036854775807) :
    Calls Try.prog 4 #[.string C, .bool m, .slice a n c, .slice a2 n2 c2, .slice a3 n3 c3] w (ZB ((n : Int) ≤ 1048576) w) := by
  have HSa := Lib.hid hsa
  have HZa := Lib.hid hza
  clear hsa hza
  go_enter Try.func4, Try.ntmps4
  by_cases g1 : (1048576 : Int) < (C.size : Int)
  · go_wp2_with fail
    go_ret
    exact ⟨⟨false, rfl, fun h => by cases h⟩, rfl⟩
  by_cases g2 : (1048576 : Int) < (n : Int)
  · go_wp2_with fail
    go_ret
    exact ⟨⟨false, rfl, fun h => by cases h⟩, rfl⟩
  by_cases k2 : (1048576 : Int) < (C.size : Int) + (n : Int)
  · go_wp2_with fail
    go_ret
    exact ⟨⟨false, rfl, fun h => by cases h⟩, rfl⟩
  go_wp2_with fail
  go_loop [11, 12] (fun t i => ∃ (k : Nat) (s : Int), k ≤ n ∧ i = .int .i64 k ∧ t = .int .i64 s ∧ 0 ≤ s ∧ s ≤ 1048576) (fun _ i => n - (intOf i).toNat)
  case atStart => exact ⟨0, (C.size : Int) + (n : Int), Nat.zero_le _, rfl, rfl, by omega, by omega⟩
  case round =>
    obtain ⟨k, s, hk, rfl, rfl, hs0, hs1⟩ := hrel
    by_cases hlt : k < n
    · obtain ⟨ab, ao, hx, d⟩ := HSa.out k hlt
      subst hx
      have q0 : (0 : Int) ≤ k := by omega
      have q1 : (k : Int) < n := by omega
      have q2 := HZa.out k hlt
      by_cases hg : (1048576 : Int) < (T k).size
      · go_wp2_with fail
        go_ret
        exact ⟨⟨false, rfl, fun h => by cases h⟩, rfl⟩
      · by_cases hg2 : (1048576 : Int) < s + (T k).size
        · go_wp2_with fail
          go_ret
          exact ⟨⟨false, rfl, fun h => by cases h⟩, rfl⟩
        · go_wp2_with fail
          go_round
          case rel => exact ⟨k + 1, s + (T k).size, by omega, by go_num, rfl, by omega, by omega⟩
          case measure => simp [intOf]; omega
    · obtain rfl : k = n := by omega
      clear hlt hk
      by_cases g4 : (1048576 : Int) < (n2 : Int)
      · go_wp2_with fail
        go_ret
        exact ⟨⟨false, rfl, fun h => by cases h⟩, rfl⟩
      by_cases k4 : (1048576 : Int) < s + (n2 : Int)
      · go_wp2_with fail
        go_ret
        exact ⟨⟨false, rfl, fun h => by cases h⟩, rfl⟩
      by_cases g5 : (1048576 : Int) < (n3 : Int)
      · go_wp2_with fail
        go_ret
        exact ⟨⟨false, rfl, fun h => by cases h⟩, rfl⟩
      by_cases k5 : (1048576 : Int) < s + (n2 : Int) + (n3 : Int)
      · go_wp2_with fail
        go_ret
        exact ⟨⟨false, rfl, fun h => by cases h⟩, rfl⟩
      go_wp2_with fail
      go_ret
      exact ⟨⟨true, rfl, fun _ => by omega⟩, rfl⟩

def MinP (k : Nat) (w : World) (e : Ending) (w' : World) : Prop := e = .returned (.int .i64 k) ∧ w = w'
set_option maxRecDepth 100000 in
theorem min_any (a b : Nat) (w : World) : Calls Try.prog 5 #[.int .i64 a, .int .i64 b] w (MinP (min a b) w) := by
  by_cases h : (a : Int) < b
  · go_enter Try.func5, Try.ntmps5
    go_wp2_with fail
    go_ret
    exact ⟨by rw [show min a b = a by omega]; rfl, rfl⟩
  · go_enter Try.func5, Try.ntmps5
    go_wp2_with fail
    go_ret
    exact ⟨by rw [show min a b = b by omega]; rfl, rfl⟩
end Go.Proofs.Ytgcohfmbdfohoaa.Fq
