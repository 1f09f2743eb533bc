/-
  zzBytes, zzStrBytes, the clones.
-/
import Derived.Test.YtfhfeimlikpbpaaDoorTf
namespace Go.Proofs.YtfhfeimlikpbpaaDoor.Cs
open Go.ChangeShapes Go.WideShapes Go.ChangeAt Go.RowKit Rg
set_option linter.unusedVariables false
def ZB (Q : Prop) (w : World) (e : Ending) (w' : World) : Prop := (∃ r : Bool, e = .returned (.bool r) ∧ (r = true → Q)) ∧ w = w'
set_option maxRecDepth 100000 in
set_option maxHeartbeats 2000000 in
theorem bytes52 (a : Option Addr) (n c : Nat) (T : Nat → ByteArray) (a2 : Option Addr) (n2 c2 : Nat) (a3 : Option Addr) (n3 c3 : Nat) (T3 : Nat → ByteArray) (w : World) (hn : (n : Int) ≤ 9223372036854775807) (hsa : Sl w a n (fun i => .string (T i))) (hza : ∀ i, i < n → ((T i).size : Int) ≤ 9223372036854775807) (hn2 : (n2 : Int) ≤ 9223372036854775807) (hn3 : (n3 : Int) ≤ 9223372036854775807) (hsa3 : Sl w a3 n3 (fun i => .string (T3 i))) (hza3 : ∀ i, i < n3 → ((T3 i).size : Int) ≤ 9223372036854775807) :
    Calls Tryd.prog 4 #[.slice a n c, .slice a2 n2 c2, .slice a3 n3 c3] w (ZB (((0 : Nat) : Int) ≤ 1048576) w) := by
  have HSa := Lib.hid hsa
  have HZa := Lib.hid hza
  clear hsa hza
  have HSa3 := Lib.hid hsa3
  have HZa3 := Lib.hid hza3
  clear hsa3 hza3
  go_enter Tryd.func4, Tryd.ntmps4
  by_cases g1 : (1048576 : Int) < (n : Int)
  · go_wp2_with fail
    go_ret
    exact ⟨⟨false, rfl, fun _ => by first | omega | trivial⟩, rfl⟩
  go_wp2_with fail
  go_loop [7, 8] (fun t i => ∃ (k : Nat) (s : Int), k ≤ n ∧ i = .int .i64 k ∧ t = .int .i64 s ∧ 0 ≤ s ∧ s ≤ 1048576) (fun _ i => n - (intOf i).toNat)
  case atStart => exact ⟨0, (n : Int), Nat.zero_le _, rfl, rfl, by omega, by omega⟩
  case round =>
    obtain ⟨k, s, hk, rfl, rfl, hs0, hs1⟩ := hrel
    by_cases hlt : k < n
    · obtain ⟨ab, ao, hx, d⟩ := HSa.out k hlt
      subst hx
      have q0 : (0 : Int) ≤ k := by omega
      have q1 : (k : Int) < n := by omega
      have q2 := HZa.out k hlt
      by_cases hg : (1048576 : Int) < (T k).size
      · go_wp2_with fail
        go_ret
        exact ⟨⟨false, rfl, fun _ => by first | omega | trivial⟩, rfl⟩
      · by_cases hg2 : (1048576 : Int) < s + (T k).size
        · go_wp2_with fail
          go_ret
          exact ⟨⟨false, rfl, fun _ => by first | omega | trivial⟩, rfl⟩
        · go_wp2_with fail
          go_round
          case rel => exact ⟨k + 1, s + (T k).size, by omega, by go_num, rfl, by omega, by omega⟩
          case measure => simp [intOf]; omega
    · obtain rfl : k = n := by omega
      clear hlt hk
      by_cases g3 : (1048576 : Int) < (n2 : Int)
      · go_wp2_with fail
        go_ret
        exact ⟨⟨false, rfl, fun _ => by first | omega | trivial⟩, rfl⟩
      by_cases k3 : (1048576 : Int) < s + (n2 : Int)
      · go_wp2_with fail
        go_ret
        exact ⟨⟨false, rfl, fun _ => by first | omega | trivial⟩, rfl⟩
      by_cases g4 : (1048576 : Int) < (n3 : Int)
      · go_wp2_with fail
        go_ret
        exact ⟨⟨false, rfl, fun _ => by first | omega | trivial⟩, rfl⟩
      by_cases k4 : (1048576 : Int) < s + (n2 : Int) + (n3 : Int)
      · go_wp2_with fail
        go_ret
        exact ⟨⟨false, rfl, fun _ => by first | omega | trivial⟩, rfl⟩
      go_wp2_with fail
      go_loop [7, 9] (fun t i => ∃ (k : Nat) (s : Int), k ≤ n3 ∧ i = .int .i64 k ∧ t = .int .i64 s ∧ 0 ≤ s ∧ s ≤ 1048576) (fun _ i => n3 - (intOf i).toNat)
      case atStart => exact ⟨0, s + (n2 : Int) + (n3 : Int), Nat.zero_le _, rfl, rfl, by omega, by omega⟩
      case round =>
        obtain ⟨k, s, hk, rfl, rfl, hs0, hs1⟩ := hrel
        by_cases hlt : k < n3
        · obtain ⟨ab, ao, hx, d⟩ := HSa3.out k hlt
          subst hx
          have q0 : (0 : Int) ≤ k := by omega
          have q1 : (k : Int) < n3 := by omega
          have q2 := HZa3.out k hlt
          by_cases hg : (1048576 : Int) < (T3 k).size
          · go_wp2_with fail
            go_ret
            exact ⟨⟨false, rfl, fun _ => by first | omega | trivial⟩, rfl⟩
          · by_cases hg2 : (1048576 : Int) < s + (T3 k).size
            · go_wp2_with fail
              go_ret
              exact ⟨⟨false, rfl, fun _ => by first | omega | trivial⟩, rfl⟩
            · go_wp2_with fail
              go_round
              case rel => exact ⟨k + 1, s + (T3 k).size, by omega, by go_num, rfl, by omega, by omega⟩
              case measure => simp [intOf]; omega
        · obtain rfl : k = n3 := by omega
          clear hlt hk
          go_wp2_with fail
          go_ret
          exact ⟨⟨true, rfl, fun _ => by first | omega | trivial⟩, rfl⟩
theorem cls_any_info : (Tryd.prog.info? 9).map (fun i => (i.zero, i.size, i.bytes)) = some (some (.string ⟨#[]⟩), 1, 16) := by kernel_rfl
set_option maxRecDepth 100000 in
set_option maxHeartbeats 1000000 in
theorem cls_any (a : Option Addr) (n c : Nat) (Z : Nat → ByteArray) (w : World) (h : Sl w a n (fun i => .string (Z i))) (h0 : a = none → n = 0) (hn : (n : Int) ≤ 65536) :
    Calls Tryd.prog 6 #[.slice a n c] w (Clon a n (fun i => .string (Z i)) w) := by
  have hq : ∀ W n' c', (binOp .eql 22 (.slice a n c) (.slice none n' c')).run Tryd.prog W = .ok (.bool a.isNone) W := fun W n' c' => Lib.run_eql_slice_nil W 22 9 a n c n' c' (by kernel_rfl)
  obtain ⟨i0, hi, hz0, hz1, hz2⟩ := info_parts cls_any_info
  have hmk := fun W => run_make_rowN (P := Tryd.prog) 22 9 i0 _ (by kernel_rfl) hi hz0 .i64 .i64 n n (Nat.le_refl _) (by rw [hz2]; omega) (by omega) W
  rw [hz1] at hmk
  have H := Lib.hid h
  clear h
  cases a with
  | none =>
    obtain rfl := h0 rfl
    clear hmk hi hz0 hz1 hz2
    go_enter Tryd.func6, Tryd.ntmps6
    go_wp2
    go_ret
    exact ⟨none, 0, rfl, Sl.none_ _ _ _, fun x hx => by simp at hx, Iff.rfl, Below.refl _ _⟩
  | some x =>
    have hT0 : CR w.heap.size w.heap.size n 0 (fun i => .string (Z i)) w (w.alloc (.cells (madeCells #[.string ⟨#[]⟩] n) 9)) := CR.made w n _ _ _ (by simp [madeCells])
    clear h0
    go_enter Tryd.func6, Tryd.ntmps6
    go_wp2
    generalize World.alloc w _ = w1 at hT0 ⊢
    have HT0 := Lib.hid hT0
    clear hT0 hmk hi hz0 hz1 hz2 hq
    go_loopw [4] (fun i wr => ∃ k : Nat, k ≤ n ∧ i = .int .i64 k ∧ Hid (CR w.heap.size w.heap.size n k (fun i => .string (Z i)) w wr)) (fun i _ => n - (intOf i).toNat)
    case atStart => exact ⟨0, Nat.zero_le _, rfl, HT0⟩
    case round =>
      clear HT0
      obtain ⟨k, hk, rfl, HT⟩ := hrel
      by_cases hlt : k < n
      · obtain ⟨ab, ao, hx, r0⟩ := H.out k hlt
        simp only [Option.some.injEq] at hx
        subst hx
        have bel := HT.out.2.2.2.2.2
        have t0 : wr.cell? ⟨ab, ao + k, none⟩ = some (.string (Z k)) := (bel.cell (p := ⟨ab, ao + k, none⟩) (World.block_lt_of_cell? w _ r0)).trans r0
        have hne : ab ≠ w.heap.size := by have := World.block_lt_of_cell? w _ r0; simp at this; omega
        have q0 : (0 : Int) ≤ k := by omega
        have q1 : (k : Int) < n := by omega
        obtain ⟨v0, e0⟩ := Option.isSome_iff_exists.1 (HT.out.2.1 k (by omega))
        have hf := HT.out.2.2.1
        have HP := Lib.hid (HT.out.put hlt)
        clear r0 bel
        go_wp2
        exact ⟨⟨k + 1, by omega, by go_num, HP⟩, by simp [intOf]; omega⟩
      · obtain rfl : k = n := by omega
        go_wp2
        go_ret
        exact ⟨some ⟨w.heap.size, 0, none⟩, k, rfl, HT.out.done, fun y hy => by injection hy with hy; subst hy; exact Nat.le_refl _, by simp, HT.out.2.2.2.2.2⟩
theorem clu_any_info : (Tryd.prog.info? 5).map (fun i => (i.zero, i.size, i.bytes)) = some (some (.int .u8 0), 1, 1) := by kernel_rfl
set_option maxRecDepth 100000 in
set_option maxHeartbeats 1000000 in
theorem clu_any (a : Option Addr) (n c : Nat) (Z : Nat → Int) (w : World) (h : Sl w a n (fun i => .int .u8 (Z i))) (h0 : a = none → n = 0) (hn : (n : Int) ≤ 65536) :
    Calls Tryd.prog 7 #[.slice a n c] w (Clon a n (fun i => .int .u8 (Z i)) w) := by
  have hq : ∀ W n' c', (binOp .eql 23 (.slice a n c) (.slice none n' c')).run Tryd.prog W = .ok (.bool a.isNone) W := fun W n' c' => Lib.run_eql_slice_nil W 23 5 a n c n' c' (by kernel_rfl)
  obtain ⟨i0, hi, hz0, hz1, hz2⟩ := info_parts clu_any_info
  have hmk := fun W => run_make_rowN (P := Tryd.prog) 23 5 i0 _ (by kernel_rfl) hi hz0 .i64 .i64 n n (Nat.le_refl _) (by rw [hz2]; omega) (by omega) W
  rw [hz1] at hmk
  have H := Lib.hid h
  clear h
  cases a with
  | none =>
    obtain rfl := h0 rfl
    clear hmk hi hz0 hz1 hz2
    go_enter Tryd.func7, Tryd.ntmps7
    go_wp2
    go_ret
    exact ⟨none, 0, rfl, Sl.none_ _ _ _, fun x hx => by simp at hx, Iff.rfl, Below.refl _ _⟩
  | some x =>
    have hT0 : CR w.heap.size w.heap.size n 0 (fun i => .int .u8 (Z i)) w (w.alloc (.cells (madeCells #[.int .u8 0] n) 5)) := CR.made w n _ _ _ (by simp [madeCells])
    clear h0
    go_enter Tryd.func7, Tryd.ntmps7
    go_wp2
    generalize World.alloc w _ = w1 at hT0 ⊢
    have HT0 := Lib.hid hT0
    clear hT0 hmk hi hz0 hz1 hz2 hq
    go_loopw [4] (fun i wr => ∃ k : Nat, k ≤ n ∧ i = .int .i64 k ∧ Hid (CR w.heap.size w.heap.size n k (fun i => .int .u8 (Z i)) w wr)) (fun i _ => n - (intOf i).toNat)
    case atStart => exact ⟨0, Nat.zero_le _, rfl, HT0⟩
    case round =>
      clear HT0
      obtain ⟨k, hk, rfl, HT⟩ := hrel
      by_cases hlt : k < n
      · obtain ⟨ab, ao, hx, r0⟩ := H.out k hlt
        simp only [Option.some.injEq] at hx
        subst hx
        have bel := HT.out.2.2.2.2.2
        have t0 : wr.cell? ⟨ab, ao + k, none⟩ = some (.int .u8 (Z k)) := (bel.cell (p := ⟨ab, ao + k, none⟩) (World.block_lt_of_cell? w _ r0)).trans r0
        have hne : ab ≠ w.heap.size := by have := World.block_lt_of_cell? w _ r0; simp at this; omega
        have q0 : (0 : Int) ≤ k := by omega
        have q1 : (k : Int) < n := by omega
        obtain ⟨v0, e0⟩ := Option.isSome_iff_exists.1 (HT.out.2.1 k (by omega))
        have hf := HT.out.2.2.1
        have HP := Lib.hid (HT.out.put hlt)
        clear r0 bel
        go_wp2
        exact ⟨⟨k + 1, by omega, by go_num, HP⟩, by simp [intOf]; omega⟩
      · obtain rfl : k = n := by omega
        go_wp2
        go_ret
        exact ⟨some ⟨w.heap.size, 0, none⟩, k, rfl, HT.out.done, fun y hy => by injection hy with hy; subst hy; exact Nat.le_refl _, by simp, HT.out.2.2.2.2.2⟩
set_option maxRecDepth 100000 in
set_option maxHeartbeats 1000000 in
theorem stb_any (a : Option Addr) (n c : Nat) (T : Nat → ByteArray) (w : World) (h : Sl w a n (fun i => .string (T i))) (hn : (n : Int) ≤ 65536) :
    Calls Tryd.prog 5 #[.slice a n c] w fun e w' => (∃ s : Int, e = .returned (.int .i64 s)) ∧ w = w' := by
  have H := Lib.hid h
  clear h
  go_enter Tryd.func5, Tryd.ntmps5
  go_wp2_with fail
  go_loop [3, 4] (fun t i => ∃ (k : Nat) (s : Int), k ≤ n ∧ i = .int .i64 k ∧ t = .int .i64 s) (fun _ i => n - (intOf i).toNat)
  case atStart => exact ⟨0, 0, Nat.zero_le _, rfl, rfl⟩
  case round =>
    obtain ⟨k, s, hk, rfl, rfl⟩ := hrel
    by_cases hlt : k < n
    · obtain ⟨ab, ao, hx, d⟩ := H.out k hlt
      subst hx
      have q0 : (0 : Int) ≤ k := by omega
      have q1 : (k : Int) < n := by omega
      go_wp2_with fail
      go_round
      case rel => exact ⟨k + 1, _, by omega, by go_num, rfl⟩
      case measure => simp [intOf]; omega
    · obtain rfl : k = n := by omega
      go_wp2_with fail
      go_ret
      exact ⟨⟨s, rfl⟩, rfl⟩
end Go.Proofs.YtfhfeimlikpbpaaDoor.Cs
