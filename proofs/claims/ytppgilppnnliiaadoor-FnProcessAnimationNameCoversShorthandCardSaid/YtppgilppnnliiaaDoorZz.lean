/-
  The verifier's sizes, kinds, and the row of tokens that it builds.
-/
import Derived.Test.YtppgilppnnliiaaDoorEn
import Derived.Lib.SliceRun
namespace Go.Proofs.YtppgilppnnliiaaDoor.Sy
open Go.ChangeShapes Go.WideShapes Go.ChangeAt Go.RowKit Rg
set_option linter.unusedVariables false
/-- the kind that a code stands for -/
def kdOf (k : Int) : Int := if k % 5 = 0 then 29 else if k % 5 = 1 then 36 else if k % 5 = 2 then 30 else if k % 5 = 3 then 10 else 34
set_option maxRecDepth 100000 in
set_option maxHeartbeats 1000000 in
theorem code_any (k : Int) (w : World) (h0 : 0 ≤ k) (h1 : k ≤ 255) : Calls Tryd.prog 14 #[.int .u8 k] w fun e w' => e = .returned (.int .u8 (k % 5)) ∧ w = w' := by
  go_enter Tryd.func14, Tryd.ntmps14
  go_wp2_with fail
  all_goals go_ret
  all_goals exact ⟨by first | rfl | simp [Int.tmod_eq_emod_of_nonneg h0], rfl⟩
set_option maxRecDepth 100000 in
set_option maxHeartbeats 1000000 in
theorem kind_any (k : Int) (w : World) : Calls Tryd.prog 13 #[.int .u8 (k % 5)] w fun e w' => e = .returned (.int .u8 (kdOf k)) ∧ w = w' := by
  unfold kdOf
  by_cases e0 : k % 5 = 0
  · rw [e0]
    go_enter Tryd.func13, Tryd.ntmps13
    go_wp2_with fail
    all_goals go_ret
    all_goals exact ⟨rfl, rfl⟩
  by_cases e1 : k % 5 = 1
  · rw [e1]
    go_enter Tryd.func13, Tryd.ntmps13
    go_wp2_with fail
    all_goals go_ret
    all_goals exact ⟨rfl, rfl⟩
  by_cases e2 : k % 5 = 2
  · rw [e2]
    go_enter Tryd.func13, Tryd.ntmps13
    go_wp2_with fail
    all_goals go_ret
    all_goals exact ⟨rfl, rfl⟩
  by_cases e3 : k % 5 = 3
  · rw [e3]
    go_enter Tryd.func13, Tryd.ntmps13
    go_wp2_with fail
    all_goals go_ret
    all_goals exact ⟨rfl, rfl⟩
  rw [if_neg e0, if_neg e1, if_neg e2, if_neg e3]
  generalize k % 5 = K at *
  go_enter Tryd.func13, Tryd.ntmps13
  go_wp2_with fail
  all_goals go_ret
  all_goals exact ⟨rfl, rfl⟩
set_option maxRecDepth 100000 in
set_option maxHeartbeats 1000000 in
theorem min_any (a b : Nat) (w : World) : Calls Tryd.prog 12 #[.int .i64 (a : Int), .int .i64 (b : Int)] w fun e w' => e = .returned (.int .i64 (min a b : Nat)) ∧ w = w' := by
  by_cases h : (a : Int) < b
  · have e : min a b = a := by omega
    rw [e]
    go_enter Tryd.func12, Tryd.ntmps12
    go_wp2_with fail
    all_goals go_ret
    all_goals exact ⟨rfl, rfl⟩
  · have e : min a b = b := by omega
    rw [e]
    go_enter Tryd.func12, Tryd.ntmps12
    go_wp2_with fail
    all_goals go_ret
    all_goals exact ⟨rfl, rfl⟩
set_option maxRecDepth 100000 in
set_option maxHeartbeats 1000000 in
theorem size_any (a1 a2 : Option Addr) (n1 c1 n2 c2 : Nat) (T : Nat → ByteArray) (w : World) (h1 : (n1 : Int) ≤ 4096) (h2 : (n2 : Int) ≤ 4096) (h : Sl w a2 n2 (fun i => .string (T i))) (hz : ∀ i, i < n2 → ((T i).size : Int) ≤ 1048576) :
    Calls Tryd.prog 11 #[.slice a1 n1 c1, .slice a2 n2 c2] w fun e w' => (∃ r : Int, e = .returned (.int .i64 r) ∧ 0 ≤ r ∧ r ≤ 1048577) ∧ w = w' := by
  have H := Lib.hid h
  have HZ := Lib.hid hz
  clear h hz
  go_enter Tryd.func11, Tryd.ntmps11
  go_wp2
  go_loopw [5, 6] (fun s i wr => wr = w ∧ (∃ j : Nat, j ≤ n2 ∧ i = .int .i64 j) ∧ ∃ r : Int, s = .int .i64 r ∧ 0 ≤ r ∧ r ≤ 1048576) (fun _ i _ => n2 - (intOf i).toNat)
  case atStart => exact ⟨rfl, ⟨0, Nat.zero_le _, rfl⟩, _, rfl, by omega, by omega⟩
  case round =>
    obtain ⟨rfl, ⟨j, hj, rfl⟩, r, rfl, r0, r1⟩ := hrel
    by_cases hlt : j < n2
    · obtain ⟨ab, ao, rfl, e0⟩ := H.out j hlt
      have q1 := HZ.out j hlt
      have p0 : (0 : Int) ≤ j := by omega
      have p1 : (j : Int) < n2 := by omega
      by_cases p3 : r + ((T j).size : Int) ≤ 1048576
      case neg =>
        go_wp2
        go_ret
        exact ⟨⟨_, rfl, by omega, by omega⟩, rfl⟩
      go_wp2
      go_roundw
      case rel => exact ⟨by first | rfl | trivial, ⟨j + 1, by omega, by go_num⟩, _, rfl, by omega, by omega⟩
      case measure => simp [intOf]; omega
    · obtain rfl : j = n2 := by omega
      go_wp2
      go_ret
      exact ⟨⟨_, rfl, by omega, by omega⟩, rfl⟩
theorem infoTok : (Tryd.prog.info? 39).map (fun i => (i.zero, i.size, i.bytes)) = some (some (.agg #[.pointer none, .string ⟨#[]⟩, .int .i32 0, .int .u32 0, .int .u16 0, .int .u8 0, .int .u8 0]), 7, 40) := by kernel_rfl
theorem made_row (z : List Value) (h : 0 < z.length) (n : Nat) : madeCells z.toArray (n * z.length) = (rowg (fun _ => z) n).toArray := by
  apply Array.ext'
  apply List.ext_getElem?
  intro i
  by_cases hi : i < n * z.length
  · have hq : i / z.length < n := Nat.div_lt_of_lt_mul (by rw [Nat.mul_comm]; exact hi)
    have hr : i % z.length < z.length := Nat.mod_lt _ h
    have h2 := rowg_at (fun _ => z) (s := z.length) (fun _ => rfl) n (i / z.length) (i % z.length) hq hr
    rw [show (i / z.length) * z.length + i % z.length = i by rw [Nat.mul_comm]; exact Nat.div_add_mod i z.length, List.getElem?_eq_getElem hr] at h2
    show (madeCells z.toArray (n * z.length)).toList[i]? = _
    rw [h2]
    simp [madeCells, hi, hr]
  · rw [List.getElem?_eq_none, List.getElem?_eq_none]
    · have := rowg_len (fun _ => z) (s := z.length) (fun _ => rfl) n
      show (rowg (fun _ => z) n).length ≤ i
      omega
    · simp [madeCells]; omega
theorem TB.made (w : World) (f : Nat → TK) (n : Nat) : TB (w.alloc (.cells (madeCells #[.pointer none, .string ⟨#[]⟩, .int .i32 0, .int .u32 0, .int .u16 0, .int .u8 0, .int .u8 0] (n * 7)) 39)) w.heap.size (bldN f n 0) := by
  have h := made_row (tkR tk0) (by decide) n
  have e : rowg (fun _ => tkR tk0) n = rowg (tkF (bldN f n 0)) (bldN f n 0).length := by
    rw [bldN_len]
    exact rowg_congr n fun j hj => by unfold tkF; rw [bldN_at f n 0 j (Nat.zero_le _), if_neg (by omega)]
  unfold TB
  rw [← e, ← h]
  exact heap_alloc_new w _
theorem TB.both {w : World} {g k n : Nat} {f : Nat → TK} (h : TB w g (bldN f n k)) (hk : k < n) (hf : (f k).2.2 = 0) :
    TB ((w.setCell ⟨g, k * 7 + 5, none⟩ (.int .u8 (f k).2.1)).setCell ⟨g, k * 7 + 1, none⟩ (.string (f k).1)) g (bldN f n (k + 1)) := by
  have hl : k < (bldN f n k).length := by rw [bldN_len]; exact hk
  have h1 := h.setK hl (f k).2.1
  have h2 := h1.setT (by simpa using hl) (f k).1
  rw [getD_set_eq hl, List.set_set, bldN_at f n k k (by omega), if_neg (by omega)] at h2
  rw [bldN]
  have e : ((f k).1, (f k).2.1, tk0.2.2) = f k := by
    rw [show tk0.2.2 = (0 : Int) from rfl, ← hf]
  rw [e] at h2
  exact h2
/-- the row of tokens that is built -/
def tok (T : Nat → ByteArray) (K : Nat → Int) (i : Nat) : TK := (T i, kdOf (K i), 0)
def Built (f : Nat → TK) (n : Nat) (w : World) (e : Ending) (w' : World) : Prop := e = .returned (.slice (some ⟨w.heap.size, 0, none⟩) n n) ∧ TB w' w.heap.size (bldN f n n) ∧ Below w.heap.size w w'
set_option maxRecDepth 100000 in
set_option maxHeartbeats 2000000 in
theorem bld_any (a1 a2 : Option Addr) (n1 c1 n2 c2 : Nat) (K : Nat → Int) (T : Nat → ByteArray) (w : World) (h1 : (n1 : Int) ≤ 1048576) (h2 : (n2 : Int) ≤ 1048576) (s1 : Sl w a1 n1 (fun i => .int .u8 (K i))) (s2 : Sl w a2 n2 (fun i => .string (T i)))
    (hk : ∀ i, i < n1 → 0 ≤ K i ∧ K i ≤ 255) : Calls Tryd.prog 6 #[.slice a1 n1 c1, .slice a2 n2 c2] w (Built (tok T K) (min n1 n2) w) := by
  obtain ⟨n, hn⟩ : ∃ n, n = min n1 n2 := ⟨_, rfl⟩
  obtain ⟨i0, hi, hz0, hz1, hz2⟩ := info_parts infoTok
  have hmk := fun W => run_make_rowN (P := Tryd.prog) 26 39 i0 _ (by kernel_rfl) hi hz0 .i64 .i64 n n (Nat.le_refl _) (by rw [hz2]; omega) (by omega) W
  rw [hz1] at hmk
  have H1 := Lib.hid s1
  have H2 := Lib.hid s2
  have HK := Lib.hid hk
  have hn1 : n ≤ n1 := by omega
  have hn2 : n ≤ n2 := by omega
  have hf : ∀ k, (tok T K k).2.2 = 0 := fun _ => rfl
  have HF := Lib.hid hf
  rw [← hn]
  clear s1 s2 hk hf
  go_enter Tryd.func6, Tryd.ntmps6
  go_wp2_with fail
  refine (min_any n1 n2 w).mono ?_
  rintro e w' ⟨rfl, rfl⟩
  rw [← hn]
  clear hn
  go_wp2_with fail
  have hT0 := TB.made w (tok T K) n
  have hB0 : Below w.heap.size w (w.alloc (.cells (madeCells #[.pointer none, .string ⟨#[]⟩, .int .i32 0, .int .u32 0, .int .u16 0, .int .u8 0, .int .u8 0] (n * 7)) 39)) := (Below.refl _ _).alloc (Nat.le_refl _) _
  generalize World.alloc w _ = w1 at hT0 hB0 ⊢
  have HT0 := Lib.hid (And.intro hT0 hB0)
  clear hT0 hB0 hmk hi hz0 hz1 hz2
  go_loopw [7] (fun i wr => ∃ k : Nat, k ≤ n ∧ i = .int .i64 k ∧ Hid (TB wr w.heap.size (bldN (tok T K) n k) ∧ Below w.heap.size w wr)) (fun i _ => n - (intOf i).toNat)
  case atStart => exact ⟨0, Nat.zero_le _, rfl, HT0⟩
  case round =>
    clear HT0
    obtain ⟨k, hk, rfl, HT⟩ := hrel
    by_cases hlt : k < n
    · obtain ⟨ab, ao, rfl, r0⟩ := H1.out k (by omega)
      obtain ⟨bb, bo, rfl, r1⟩ := H2.out k (by omega)
      obtain ⟨k0, k1⟩ := HK.out k (by omega)
      have t0 := later HT.out.2 r0
      have t1 := later HT.out.2 r1
      have q0 : (0 : Int) ≤ k := by omega
      have q1 : (k : Int) < n := by omega
      have q2 : (k : Int) < n1 := by omega
      have q3 : (k : Int) < n2 := by omega
      have hne : ¬ bb = w.heap.size := by have := World.block_lt_of_cell? w _ r1; simp at this; omega
      have hne2 : ¬ w.heap.size = bb := fun e => hne e.symm
      clear r0 r1
      have hl : k < (bldN (tok T K) n k).length := by rw [bldN_len]; exact hlt
      have c5 := HT.out.1.cellAt hl (j := 5) rfl
      have c1 := HT.out.1.cellAt hl (j := 1) rfl
      have f5 := Bk.frozen HT.out.1 (k * 7 + 5)
      have f1 := Bk.frozen HT.out.1 (k * 7 + 1)
      have hP := HT.out.1.both hlt (HF.out k)
      have hQ : Below w.heap.size w ((wr.setCell ⟨w.heap.size, k * 7 + 5, none⟩ (.int .u8 (kdOf (K k)))).setCell ⟨w.heap.size, k * 7 + 1, none⟩ (.string (T k))) := (HT.out.2.setCell (Nat.le_refl _) _).setCell (Nat.le_refl _) _
      have HP : Hid (TB ((wr.setCell ⟨w.heap.size, k * 7 + 5, none⟩ (.int .u8 (kdOf (K k)))).setCell ⟨w.heap.size, k * 7 + 1, none⟩ (.string (T k))) w.heap.size (bldN (tok T K) n (k + 1)) ∧ Below w.heap.size w ((wr.setCell ⟨w.heap.size, k * 7 + 5, none⟩ (.int .u8 (kdOf (K k)))).setCell ⟨w.heap.size, k * 7 + 1, none⟩ (.string (T k)))) := Lib.hid ⟨hP, hQ⟩
      clear hP hQ HT
      go_wp2_with fail
      refine (code_any (K k) wr k0 k1).mono ?_
      rintro e w' ⟨rfl, rfl⟩
      go_wp2_with fail
      refine (kind_any (K k) wr).mono ?_
      rintro e w' ⟨rfl, rfl⟩
      go_wp2_with fail
      exact ⟨⟨k + 1, by omega, by go_num, HP⟩, by simp [intOf]; omega⟩
    · obtain rfl : k = n := by omega
      go_wp2
      go_ret
      exact ⟨rfl, HT.out.1, HT.out.2⟩
end Go.Proofs.YtppgilppnnliiaaDoor.Sy
