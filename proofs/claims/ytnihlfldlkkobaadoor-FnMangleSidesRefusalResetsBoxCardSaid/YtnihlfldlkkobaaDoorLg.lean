/-
  The small functions of FnMangleSidesRefusalResetsBox.
-/
import Derived.Test.YtnihlfldlkkobaaDoorLe
import Derived.Laws.Rows
namespace Go.Proofs.YtnihlfldlkkobaaDoor.Bx
open Go.ChangeShapes Go.WideShapes Go.ChangeAt Go.RowKit Rg Quad
set_option linter.unusedVariables false
set_option linter.unusedSimpArgs false
def AnyB (Q : Prop) (w : World) (e : Ending) (w' : World) : Prop := (∃ r : Bool, e = .returned (.bool r) ∧ (r = true → Q)) ∧ w' = w
def AnyI (w : World) (e : Ending) (w' : World) : Prop := (∃ s : Int, e = .returned (.int .i64 s) ∧ 0 ≤ s ∧ s ≤ 2097152) ∧ w' = w
def kK (c : Int) : Int := if c % 5 = 0 then 0 else if c % 5 = 1 then 30 else if c % 5 = 2 then 34 else if c % 5 = 3 then 26 else 29
set_option maxRecDepth 100000 in
set_option maxHeartbeats 1000000 in
theorem kd_any (c : Int) (w : World) (h0 : 0 ≤ c ∧ c < 256) : Calls Tryd.prog 16 #[.int .u8 c] w fun e w' => e = .returned (.int .u8 (kK c)) ∧ w' = w := by
  obtain ⟨m, hm⟩ : ∃ m, c % 5 = m := ⟨_, rfl⟩
  have ht : c.tmod 5 = m := by rw [Int.tmod_eq_emod_of_nonneg h0.1]; exact hm
  unfold kK
  rw [hm]
  have hc : m = 0 ∨ m = 1 ∨ m = 2 ∨ m = 3 ∨ m = 4 := by omega
  clear hm
  rcases hc with rfl | rfl | rfl | rfl | rfl
  all_goals
    go_enter Tryd.func16, Tryd.ntmps16
    go_wp2_with fail
    go_ret
    exact ⟨rfl, rfl⟩
set_option maxRecDepth 100000 in
set_option maxHeartbeats 2000000 in
theorem zb15 (n : Int) (ka ta : Option Addr) (nk ck nt ct : Nat) (b1 b2 b3 : Bool) (T : Nat → ByteArray) (w : World) (hk : (nk : Int) ≤ 9223372036854775807) (hn : (nt : Int) ≤ 9223372036854775807) (hs : Sl w ta nt (fun i => .string (T i))) (hz : ∀ i, i < nt → ((T i).size : Int) ≤ 9223372036854775807) :
    Calls Tryd.prog 4 #[.int .i64 n, .slice ka nk ck, .slice ta nt ct, .bool b1, .bool b2, .bool b3] w (AnyB (∀ i, i < nt → ((T i).size : Int) ≤ 1048576) w) := by
  have HS := Lib.hid hs
  have HZ := Lib.hid hz
  clear hs hz
  go_enter Tryd.func4, Tryd.ntmps4
  by_cases g1 : (1048576 : Int) < nk
  · go_wp2_with fail
    go_ret
    exact ⟨⟨false, rfl, fun h => by cases h⟩, rfl⟩
  by_cases g2 : (1048576 : Int) < nt
  · go_wp2_with fail
    go_ret
    exact ⟨⟨false, rfl, fun h => by cases h⟩, rfl⟩
  by_cases g3 : (1048576 : Int) < (nk : Int) + nt
  · go_wp2_with fail
    go_ret
    exact ⟨⟨false, rfl, fun h => by cases h⟩, rfl⟩
  go_wp2_with fail
  go_loop [13, 14] (fun t i => ∃ (k : Nat) (s : Int), k ≤ nt ∧ i = .int .i64 k ∧ t = .int .i64 s ∧ 0 ≤ s ∧ s ≤ 1048576 ∧ Hid (∀ j, j < k → ((T j).size : Int) ≤ 1048576)) (fun _ i => nt - (intOf i).toNat)
  case atStart => exact ⟨0, (nk : Int) + nt, Nat.zero_le _, rfl, rfl, by omega, by omega, Lib.hid fun j hj => absurd hj (by omega)⟩
  case round =>
    obtain ⟨k, s, hk2, rfl, rfl, hs0, hs1, HJ⟩ := hrel
    by_cases hlt : k < nt
    · obtain ⟨ab, ao, hx, d⟩ := HS.out k hlt
      subst hx
      have q0 : (0 : Int) ≤ k := by omega
      have q1 : (k : Int) < nt := by omega
      have q2 := HZ.out k hlt
      by_cases hg : (1048576 : Int) < (T k).size
      · go_wp2_with fail
        go_ret
        exact ⟨⟨false, rfl, fun h => by cases h⟩, rfl⟩
      · by_cases hg2 : (1048576 : Int) < s + (T k).size
        · go_wp2_with fail
          go_ret
          exact ⟨⟨false, rfl, fun h => by cases h⟩, rfl⟩
        · have HJ2 : Hid (∀ j, j < k + 1 → ((T j).size : Int) ≤ 1048576) := Lib.hid fun j hj => by
            by_cases e : j = k
            · subst e; omega
            · exact HJ.out j (by omega)
          clear HJ
          go_wp2_with fail
          go_round
          case rel => exact ⟨k + 1, s + (T k).size, by omega, by go_num, rfl, by omega, by omega, HJ2⟩
          case measure => simp [intOf]; omega
    · obtain rfl : k = nt := by omega
      clear hlt hk2
      go_wp2_with fail
      go_ret
      exact ⟨⟨true, rfl, fun _ => HJ.out⟩, rfl⟩
set_option maxRecDepth 100000 in
set_option maxHeartbeats 2000000 in
theorem tb_any (ta : Option Addr) (nt ct : Nat) (T : Nat → ByteArray) (w : World) (hn : (nt : Int) ≤ 65536) (hs : Sl w ta nt (fun i => .string (T i))) (hz : ∀ i, i < nt → ((T i).size : Int) ≤ 1048576) :
    Calls Tryd.prog 5 #[.slice ta nt ct] w (AnyI w) := by
  have HS := Lib.hid hs
  have HZ := Lib.hid hz
  clear hs hz
  have hn0 : (0 : Int) ≤ nt := by omega
  go_enter Tryd.func5, Tryd.ntmps5
  go_wp2_with fail
  go_loop [3, 4] (fun t i => ∃ (k : Nat) (s : Int), k ≤ nt ∧ i = .int .i64 k ∧ t = .int .i64 s ∧ 0 ≤ s ∧ s ≤ 1048576) (fun _ i => nt - (intOf i).toNat)
  case atStart => exact ⟨0, 16 * (nt : Int), Nat.zero_le _, rfl, by first | rfl | go_num, by omega, by omega⟩
  case round =>
    obtain ⟨k, s, hk2, rfl, rfl, hs0, hs1⟩ := hrel
    by_cases hlt : k < nt
    · obtain ⟨ab, ao, hx, d⟩ := HS.out k hlt
      subst hx
      have q0 : (0 : Int) ≤ k := by omega
      have q1 : (k : Int) < nt := by omega
      have q2 := HZ.out k hlt
      by_cases hg2 : (1048576 : Int) < s + (T k).size
      · go_wp2_with fail
        go_ret
        exact ⟨⟨_, rfl, by omega, by omega⟩, rfl⟩
      · go_wp2_with fail
        go_round
        case rel => exact ⟨k + 1, s + (T k).size, by omega, by go_num, rfl, by omega, by omega⟩
        case measure => simp [intOf]; omega
    · obtain rfl : k = nt := by omega
      clear hlt hk2
      go_wp2_with fail
      go_ret
      exact ⟨⟨s, rfl, by omega, by omega⟩, rfl⟩
set_option maxRecDepth 100000 in
set_option maxHeartbeats 2000000 in
theorem rf_any (ka ta : Option Addr) (nk ck nt ct m : Nat) (aa : Bool) (C : Nat → Int) (T : Nat → ByteArray) (w : World) (hm : (m : Int) ≤ 65536) (h1 : m ≤ nk) (h2 : m ≤ nt) (hk : Sl w ka nk (fun i => .int .u8 (C i))) (hC : ∀ i, i < nk → 0 ≤ C i ∧ C i < 256) (ht : Sl w ta nt (fun i => .string (T i))) :
    Calls Tryd.prog 6 #[.slice ka nk ck, .slice ta nt ct, .int .i64 (m : Int), .bool aa] w (AnyB (refused aa m T (fun i => kK (C i))) w) := by
  have HK := Lib.hid (And.intro hk hC)
  have HT := Lib.hid ht
  have HM := Lib.hid (And.intro h1 h2)
  have HR : Hid ((m : Int) < 1 ∨ (4 : Int) < m → refused aa m T (fun i => kK (C i))) := Lib.hid fun h => by rcases h with h | h; exact .inl (by omega); exact .inr (.inl (by omega))
  clear hk hC ht h1 h2
  go_enter Tryd.func6, Tryd.ntmps6
  by_cases m1 : (m : Int) < 1
  · go_wp2_with fail
    go_ret
    exact ⟨⟨true, rfl, fun _ => HR.out (.inl m1)⟩, rfl⟩
  by_cases m4 : (4 : Int) < m
  · go_wp2_with fail
    go_ret
    exact ⟨⟨true, rfl, fun _ => HR.out (.inr m4)⟩, rfl⟩
  clear HR
  go_wp2_with fail
  go_loop [9] (fun i => ∃ k : Nat, k ≤ m ∧ i = .int .i64 k) (fun i => m - (intOf i).toNat)
  case atStart => exact ⟨0, Nat.zero_le _, rfl⟩
  case round =>
    obtain ⟨k, hk2, rfl⟩ := hrel
    by_cases hlt : k < m
    case neg =>
      obtain rfl : k = m := by omega
      go_wp2_with fail
      go_ret
      exact ⟨⟨false, rfl, fun h => by cases h⟩, rfl⟩
    have hk1 : k < nk := by have := HM.out.1; omega
    have hk3 : k < nt := by have := HM.out.2; omega
    obtain ⟨ab, ao, hx, c1⟩ := HK.out.1 k hk1
    obtain ⟨ab2, ao2, hx2, c2⟩ := HT.out k hk3
    subst hx
    subst hx2
    have q0 : (0 : Int) ≤ k := by omega
    have q1 : (k : Int) < nk := by omega
    have q2 : (k : Int) < nt := by omega
    have q3 : (k : Int) < m := by omega
    have HKD := Lib.hid (fun W => kd_any (C k) W (HK.out.2 k hk1))
    have HBAD : Hid (¬ good aa T (fun i => kK (C i)) k → refused aa m T (fun i => kK (C i))) := Lib.hid fun h => .inr (.inr ⟨k, hlt, h⟩)
    have HGD : Hid (good aa T (fun i => kK (C i)) k ↔ kK (C k) = 30 ∨ kK (C k) = 34 ∨ kK (C k) = 26 ∨ (kK (C k) = 29 ∧ aa = true ∧ (T k).toList = auto_.toList)) := Lib.hid Iff.rfl
    dsimp only at c1 c2
    generalize kK (C k) = y at *
    generalize C k = cc at *
    generalize T k = tx at *
    go_upto_region 7 with (first | (go_at_call 16; refine (HKD.out _).mono ?_; rintro e wk ⟨rfl, hwk⟩; rw [hwk]; clear hwk))
    clear c1 HKD
    by_cases y0 : y = 30
    · subst y0
      go_wp2_with fail
      go_round
      case rel => exact ⟨k + 1, by omega, by go_num⟩
      case measure => simp [intOf]; omega
    by_cases y1 : y = 34
    · subst y1
      go_wp2_with fail
      go_round
      case rel => exact ⟨k + 1, by omega, by go_num⟩
      case measure => simp [intOf]; omega
    by_cases y2 : y = 26
    · subst y2
      go_wp2_with fail
      go_round
      case rel => exact ⟨k + 1, by omega, by go_num⟩
      case measure => simp [intOf]; omega
    have z0 : (y == 30) = false := beq_eq_false_iff_ne.mpr y0
    have z1 : (y == 34) = false := beq_eq_false_iff_ne.mpr y1
    have z2 : (y == 26) = false := beq_eq_false_iff_ne.mpr y2
    by_cases y3 : y = 29
    · subst y3
      cases aa with
      | false =>
        have HF := Lib.hid (HBAD.out (fun h => by rcases HGD.out.1 h with h | h | h | h; cases h; cases h; cases h; cases h.2.1))
        go_wp2_with fail
        go_ret
        exact ⟨⟨true, rfl, fun _ => HF.out⟩, rfl⟩
      | true =>
        by_cases hat : tx.toList = [97, 117, 116, 111]
        · have xat : (tx.toList == [97, 117, 116, 111]) = true := by rw [beq_iff_eq]; exact hat
          clear hat HBAD HGD
          go_wp2_with fail
          go_round
          case rel => exact ⟨k + 1, by omega, by go_num⟩
          case measure => simp [intOf]; omega
        · have xat : (tx.toList == [97, 117, 116, 111]) = false := beq_eq_false_iff_ne.mpr hat
          have HF := Lib.hid (HBAD.out (fun h => by rcases HGD.out.1 h with h | h | h | h; cases h; cases h; cases h; exact hat (h.2.2.trans auto_list)))
          clear hat HBAD HGD
          go_wp2_with fail
          go_ret
          exact ⟨⟨true, rfl, fun _ => HF.out⟩, rfl⟩
    · have z3 : (y == 29) = false := beq_eq_false_iff_ne.mpr y3
      have HF := Lib.hid (HBAD.out (fun h => by rcases HGD.out.1 h with h | h | h | h; exact y0 h; exact y1 h; exact y2 h; exact y3 h.1))
      clear HBAD HGD
      go_wp2_with fail
      go_ret
      exact ⟨⟨true, rfl, fun _ => HF.out⟩, rfl⟩
theorem cu8_info : (Tryd.prog.info? 5).map (fun i => (i.zero, i.size, i.bytes)) = some (some (.int .u8 0), 1, 1) := by kernel_rfl
set_option maxRecDepth 100000 in
set_option maxHeartbeats 1000000 in
theorem cu8 (a : Option Addr) (n c : Nat) (Z : Nat → Int) (w : World) (h : Sl w a n (fun i => .int .u8 (Z i))) (h0 : a = none → n = 0) (hn : (n : Int) ≤ 65536) :
    Calls Tryd.prog 7 #[.slice a n c] w (Clon a n (fun i => .int .u8 (Z i)) w) := by
  have hq : ∀ W n' c', (binOp .eql 22 (.slice a n c) (.slice none n' c')).run Tryd.prog W = .ok (.bool a.isNone) W := fun W n' c' => Lib.run_eql_slice_nil W 22 5 a n c n' c' (by kernel_rfl)
  obtain ⟨i0, hi, hz0, hz1, hz2⟩ := info_parts cu8_info
  have hmk := fun W => run_make_rowN (P := Tryd.prog) 22 5 i0 _ (by kernel_rfl) hi hz0 .i64 .i64 n n (Nat.le_refl _) (by rw [hz2]; omega) (by omega) W
  rw [hz1] at hmk
  have H := Lib.hid h
  clear h
  cases a with
  | none =>
    obtain rfl := h0 rfl
    clear hmk hi hz0 hz1 hz2
    go_enter Tryd.func7, Tryd.ntmps7
    go_wp2
    go_ret
    exact ⟨none, 0, rfl, Sl.none_ _ _ _, fun x hx => by simp at hx, Iff.rfl, Below.refl _ _⟩
  | some x =>
    have hT0 : CR w.heap.size w.heap.size n 0 (fun i => .int .u8 (Z i)) w (w.alloc (.cells (madeCells #[.int .u8 0] n) 5)) := CR.made w n _ _ _ (by simp [madeCells])
    clear h0
    go_enter Tryd.func7, Tryd.ntmps7
    go_wp2
    generalize World.alloc w _ = w1 at hT0 ⊢
    have HT0 := Lib.hid hT0
    clear hT0 hmk hi hz0 hz1 hz2 hq
    go_loopw [4] (fun i wr => ∃ k : Nat, k ≤ n ∧ i = .int .i64 k ∧ Hid (CR w.heap.size w.heap.size n k (fun i => .int .u8 (Z i)) w wr)) (fun i _ => n - (intOf i).toNat)
    case atStart => exact ⟨0, Nat.zero_le _, rfl, HT0⟩
    case round =>
      clear HT0
      obtain ⟨k, hk, rfl, HT⟩ := hrel
      by_cases hlt : k < n
      · obtain ⟨ab, ao, hx, r0⟩ := H.out k hlt
        simp only [Option.some.injEq] at hx
        subst hx
        have bel := HT.out.2.2.2.2.2
        have t0 : wr.cell? ⟨ab, ao + k, none⟩ = some (.int .u8 (Z k)) := (bel.cell (p := ⟨ab, ao + k, none⟩) (World.block_lt_of_cell? w _ r0)).trans r0
        have hne : ab ≠ w.heap.size := by have := World.block_lt_of_cell? w _ r0; simp at this; omega
        have q0 : (0 : Int) ≤ k := by omega
        have q1 : (k : Int) < n := by omega
        obtain ⟨v0, e0⟩ := Option.isSome_iff_exists.1 (HT.out.2.1 k (by omega))
        have hf := HT.out.2.2.1
        have HP := Lib.hid (HT.out.put hlt)
        clear r0 bel
        go_wp2
        exact ⟨⟨k + 1, by omega, by go_num, HP⟩, by simp [intOf]; omega⟩
      · obtain rfl : k = n := by omega
        go_wp2
        go_ret
        exact ⟨some ⟨w.heap.size, 0, none⟩, k, rfl, HT.out.done, fun y hy => by injection hy with hy; subst hy; exact Nat.le_refl _, by simp, HT.out.2.2.2.2.2⟩
theorem cst_info : (Tryd.prog.info? 9).map (fun i => (i.zero, i.size, i.bytes)) = some (some (.string ⟨#[]⟩), 1, 16) := by kernel_rfl
set_option maxRecDepth 100000 in
set_option maxHeartbeats 1000000 in
theorem cst (a : Option Addr) (n c : Nat) (Z : Nat → ByteArray) (w : World) (h : Sl w a n (fun i => .string (Z i))) (h0 : a = none → n = 0) (hn : (n : Int) ≤ 65536) :
    Calls Tryd.prog 8 #[.slice a n c] w (Clon a n (fun i => .string (Z i)) w) := by
  have hq : ∀ W n' c', (binOp .eql 23 (.slice a n c) (.slice none n' c')).run Tryd.prog W = .ok (.bool a.isNone) W := fun W n' c' => Lib.run_eql_slice_nil W 23 9 a n c n' c' (by kernel_rfl)
  obtain ⟨i0, hi, hz0, hz1, hz2⟩ := info_parts cst_info
  have hmk := fun W => run_make_rowN (P := Tryd.prog) 23 9 i0 _ (by kernel_rfl) hi hz0 .i64 .i64 n n (Nat.le_refl _) (by rw [hz2]; omega) (by omega) W
  rw [hz1] at hmk
  have H := Lib.hid h
  clear h
  cases a with
  | none =>
    obtain rfl := h0 rfl
    clear hmk hi hz0 hz1 hz2
    go_enter Tryd.func8, Tryd.ntmps8
    go_wp2
    go_ret
    exact ⟨none, 0, rfl, Sl.none_ _ _ _, fun x hx => by simp at hx, Iff.rfl, Below.refl _ _⟩
  | some x =>
    have hT0 : CR w.heap.size w.heap.size n 0 (fun i => .string (Z i)) w (w.alloc (.cells (madeCells #[.string ⟨#[]⟩] n) 9)) := CR.made w n _ _ _ (by simp [madeCells])
    clear h0
    go_enter Tryd.func8, Tryd.ntmps8
    go_wp2
    generalize World.alloc w _ = w1 at hT0 ⊢
    have HT0 := Lib.hid hT0
    clear hT0 hmk hi hz0 hz1 hz2 hq
    go_loopw [4] (fun i wr => ∃ k : Nat, k ≤ n ∧ i = .int .i64 k ∧ Hid (CR w.heap.size w.heap.size n k (fun i => .string (Z i)) w wr)) (fun i _ => n - (intOf i).toNat)
    case atStart => exact ⟨0, Nat.zero_le _, rfl, HT0⟩
    case round =>
      clear HT0
      obtain ⟨k, hk, rfl, HT⟩ := hrel
      by_cases hlt : k < n
      · obtain ⟨ab, ao, hx, r0⟩ := H.out k hlt
        simp only [Option.some.injEq] at hx
        subst hx
        have bel := HT.out.2.2.2.2.2
        have t0 : wr.cell? ⟨ab, ao + k, none⟩ = some (.string (Z k)) := (bel.cell (p := ⟨ab, ao + k, none⟩) (World.block_lt_of_cell? w _ r0)).trans r0
        have hne : ab ≠ w.heap.size := by have := World.block_lt_of_cell? w _ r0; simp at this; omega
        have q0 : (0 : Int) ≤ k := by omega
        have q1 : (k : Int) < n := by omega
        obtain ⟨v0, e0⟩ := Option.isSome_iff_exists.1 (HT.out.2.1 k (by omega))
        have hf := HT.out.2.2.1
        have HP := Lib.hid (HT.out.put hlt)
        clear r0 bel
        go_wp2
        exact ⟨⟨k + 1, by omega, by go_num, HP⟩, by simp [intOf]; omega⟩
      · obtain rfl : k = n := by omega
        go_wp2
        go_ret
        exact ⟨some ⟨w.heap.size, 0, none⟩, k, rfl, HT.out.done, fun y hy => by injection hy with hy; subst hy; exact Nat.le_refl _, by simp, HT.out.2.2.2.2.2⟩
theorem made_at (z : Array Value) (k o r : Nat) (h : o < k) (hr : o % z.size = r) (hz : 0 < z.size) : (madeCells z k)[o]? = z[r]? := by
  unfold madeCells
  subst hr
  have h2 := Nat.mod_lt o hz
  simp [h]
  rw [getElem!_pos z _ h2, getElem?_pos z _ h2]
theorem ru_info : (Tryd.prog.info? 52).map (fun i => (i.zero, i.size, i.bytes)) = some (some (.agg #[.nilIface, .int .i32 0]), 2, 24) := by kernel_rfl
theorem w32 {k : Nat} (h : k < 4096) : IntKind.i32.wrap ((k : Int) + 1) = (k : Int) + 1 := by rw [IntKind.wrap_i32]; omega
/-- rules 0 to k marked -/
def MR (B g n k : Nat) (w0 w : World) : Prop := RR w g n (fun j => (none, if j < k then (j : Int) + 1 else 0)) ∧ w.there g 0 (n * 2) ∧ B ≤ g ∧ Below B w0 w
theorem MR.put {B g n k : Nat} {w0 w : World} (h : MR B g n k w0 w) (hk : k < n) : MR B g n (k + 1) w0 (w.setCell ⟨g, k * 2 + 1, none⟩ (.int .i32 ((k : Int) + 1))) := by
  obtain ⟨h1, h2, h3, h4⟩ := h
  refine ⟨fun j hj i v hv => ?_, th_set h2, h3, h4.setCell h3 _⟩
  rcases i with _ | _ | i
  · have : w.cell? ⟨g, j * 2, none⟩ = some .nilIface := (h1.cells hj).1
    simp only [ruR, dv, List.getElem?_cons_zero, Option.some.injEq] at hv
    subst hv
    exact set_far (by omega) this
  · simp only [ruR, List.getElem?_cons_succ, List.getElem?_cons_zero, Option.some.injEq] at hv
    subst hv
    by_cases e : j = k
    · subst e
      rw [if_pos (by omega)]
      exact set_same (by rw [(h1.cells hj).2]; rfl)
    · have : w.cell? ⟨g, j * 2 + 1, none⟩ = some (.int .i32 (if j < k then (j : Int) + 1 else 0)) := (h1.cells hj).2
      by_cases e2 : j < k
      · rw [if_pos e2] at this
        rw [if_pos (by omega)]
        exact set_far (by omega) this
      · rw [if_neg e2] at this
        rw [if_neg (by omega)]
        exact set_far (by omega) this
  · simp [ruR] at hv
set_option maxRecDepth 100000 in
set_option maxHeartbeats 2000000 in
theorem mr_any (n : Nat) (w : World) (hn : n ≤ 4096) : Calls Tryd.prog 9 #[.int .i64 (n : Int)] w fun e w' => ∃ g, e = .returned (.slice (some ⟨g, 0, none⟩) n n) ∧ MR w.heap.size g n n w w' := by
  obtain ⟨i1, hj, hy0, hy1, hy2⟩ := info_parts ru_info
  have hmk2 := fun W => run_make_rowN (P := Tryd.prog) 29 52 i1 _ (by kernel_rfl) hj hy0 .i64 .i64 n n (Nat.le_refl _) (by rw [hy2]; omega) (by omega) W
  rw [hy1] at hmk2
  clear hj hy0 hy1 hy2
  have hZ : MR w.heap.size w.heap.size n 0 w (w.alloc (.cells (madeCells #[.nilIface, .int .i32 0] (n * 2)) 52)) := by
    have hb := (Below.refl w.heap.size w).alloc (Nat.le_refl _) (.cells (madeCells #[.nilIface, .int .i32 0] (n * 2)) 52)
    have hbk : Bk (w.alloc (.cells (madeCells #[.nilIface, .int .i32 0] (n * 2)) 52)) w.heap.size 52 (madeCells #[.nilIface, .int .i32 0] (n * 2)) := heap_alloc_new w _
    refine ⟨fun j hj i v hv => ?_, th_new w _ _ (by rw [size_madeCells]), Nat.le_refl _, hb⟩
    refine hbk.cell (j * 2 + i) ?_
    have hi : i < 2 := by have := (List.getElem?_eq_some_iff.1 hv).1; simpa [ruR] using this
    have c : i = 0 ∨ i = 1 := by omega
    rw [made_at _ _ _ i (by omega) (by show (j * 2 + i) % 2 = i; omega) (by decide), ← hv]
    unfold ruR
    dsimp only
    have e : (if j < 0 then (j : Int) + 1 else 0) = 0 := if_neg (by omega)
    rw [e]
    rcases c with rfl | rfl <;> rfl
  go_enter Tryd.func9, Tryd.ntmps9
  go_wp2_with fail
  generalize World.alloc w _ = w1 at *
  have HZ := Lib.hid hZ
  clear hZ hmk2
  go_loopw [4] (fun iv wr => ∃ k : Nat, k ≤ n ∧ iv = .int .i64 k ∧ Hid (MR w.heap.size w.heap.size n k w wr)) (fun iv _ => n - (intOf iv).toNat)
  case atStart => exact ⟨0, Nat.zero_le _, rfl, HZ⟩
  case round =>
    clear HZ
    obtain ⟨k, hk, rfl, HT⟩ := hrel
    by_cases hlt : k < n
    case neg =>
      obtain rfl : k = n := by omega
      go_wp2_with fail
      go_ret
      exact ⟨_, rfl, HT.out⟩
    have q0 : (0 : Int) ≤ k := by omega
    have q1 : (k : Int) < n := by omega
    have hw := w32 (k := k) (by omega)
    obtain ⟨v0, e0⟩ := Option.isSome_iff_exists.1 (HT.out.2.1 (k * 2 + 1) (by omega)).1
    have f0 := (HT.out.2.1 (k * 2 + 1) (by omega)).2
    rw [Nat.zero_add] at e0 f0
    have HP := Lib.hid (HT.out.put hlt)
    go_wp2_with fail
    exact ⟨⟨k + 1, by omega, by go_num, HP⟩, by simp [intOf]; omega⟩
theorem tyLc : ∃ d, Tryd.prog.underlying 39 = some d ∧ d.isRow = true := ⟨_, Tryd.underlying39, rfl⟩
theorem szLc : (Tryd.prog.info? 39).map (·.size) = some 1 := by kernel_rfl
theorem ta_some (D : Value) (w : World) : (Instr.typeAssert (.iface 44 D) 50 44 true).run Tryd.prog w = .ok (.tuple #[D, .bool true]) w := by kernel_rfl
theorem ta_nil (w : World) : (Instr.typeAssert .nilIface 50 44 true).run Tryd.prog w = .ok (.tuple #[.pointer none, .bool false]) w := by kernel_rfl
set_option maxRecDepth 100000 in
set_option maxHeartbeats 1000000 in
theorem rd_any (x : Option Nat) (l : Int) (w : World) : Calls Tryd.prog 14 #[.agg #[dv x, .int .i32 l]] w fun e w' => e = .returned (pv x) ∧ Below w.heap.size w w' := by
  have h1 := ta_some
  have h2 := ta_nil
  cases x
  all_goals
    unfold dv pv
    dsimp only
    go_enter Tryd.func14, Tryd.ntmps14
    go_wp2_with fail
    go_ret
    exact ⟨rfl, (Below.refl _ _).alloc (Nat.le_refl _) _⟩
set_option maxRecDepth 100000 in
set_option maxHeartbeats 1000000 in
theorem hd_any (x : Option Nat) (l : Int) (w : World) : Calls Tryd.prog 15 #[.agg #[dv x, .int .i32 l]] w fun e w' => e = .returned (.bool x.isSome) ∧ Below w.heap.size w w' := by
  cases x
  all_goals
    unfold dv
    dsimp only
    go_enter Tryd.func15, Tryd.ntmps15
    go_wp2_with fail
    go_ret
    exact ⟨rfl, (Below.refl _ _).alloc (Nat.le_refl _) _⟩
set_option maxRecDepth 100000 in
set_option maxHeartbeats 1000000 in
theorem sk_any (b s : Nat) (kt : ByteArray) (aa imp : Bool) (key : Int) (σ : Nat → SD) (w : World) (hB : BB kt aa imp key σ b w) (hs : s < 4) : Calls Tryd.prog 13 #[.pointer (some ⟨b, 0, none⟩), .int .i64 (s : Int)] w fun e w' => e = .returned (.int .u8 (σ s).k) ∧ w' = w := by
  have c5 : w.cell? ⟨b, 1 + s * 11 + 5, none⟩ = some (.int .u8 (σ s).k) := hB.2.1 s hs 5 _ rfl
  have q0 : (0 : Int) ≤ s := by omega
  have q1 : (s : Int) < 4 := by omega
  generalize (σ s).k = y at *
  clear hB
  go_enter Tryd.func13, Tryd.ntmps13
  go_wp2_with fail
  go_ret
  exact ⟨rfl, rfl⟩
set_option maxRecDepth 100000 in
set_option maxHeartbeats 1000000 in
theorem bi_any (b : Nat) (kt : ByteArray) (aa imp : Bool) (key : Int) (σ : Nat → SD) (w : World) (hB : BB kt aa imp key σ b w) : Calls Tryd.prog 17 #[.pointer (some ⟨b, 0, none⟩)] w fun e w' => e = .returned (.bool imp) ∧ w' = w := by
  have c := hB.2.2.2.1
  clear hB
  go_enter Tryd.func17, Tryd.ntmps17
  go_wp2_with fail
  go_ret
  exact ⟨rfl, rfl⟩
set_option maxRecDepth 100000 in
set_option maxHeartbeats 1000000 in
theorem ll_any (l : Int) (w : World) : Calls Tryd.prog 18 #[.int .i32 l] w fun e w' => e = .returned (.agg #[.int .i32 l]) ∧ Below w.heap.size w w' := by
  obtain ⟨du, hu, hu2⟩ := tyLc
  have hr : (w.alloc (.cells #[.int .i32 l] 39)).rangeAt w.heap.size 0 [.int .i32 l] := rg_new w #[.int .i32 l] 39
  have hb : Below w.heap.size w (w.alloc (.cells #[.int .i32 l] 39)) := (Below.refl _ _).alloc (Nat.le_refl _) _
  have HR := Lib.hid (And.intro hr hb)
  have HU := Lib.hid hu
  clear hu hr hb
  go_enter Tryd.func18, Tryd.ntmps18
  go_wp2_with fail
  exact bodyPost_ret (results_cell_mid rfl _ _ w.heap.size 0 [.int .i32 l] du rfl HR.out.1 HU.out hu2 szLc) rfl ⟨rfl, HR.out.2⟩
set_option maxRecDepth 100000 in
set_option maxHeartbeats 1000000 in
theorem dr_any (l : Int) (d : Nat) (w : World) : Calls Tryd.prog 11 #[.int .i32 l, .pointer (some ⟨d, 0, none⟩)] w fun e w' => e = .returned (.agg #[.iface 44 (.pointer (some ⟨d, 0, none⟩)), .int .i32 l]) ∧ Below w.heap.size w w' := by
  have HLL := Lib.hid (fun W => ll_any l W)
  obtain ⟨du, hu, hu2⟩ := tyRu
  have HU := Lib.hid hu
  clear hu
  have ht : (w.alloc (.cells #[.nilIface, .int .i32 0] 52)).there w.heap.size 0 2 := th_new w _ _ rfl
  have hb : Below w.heap.size w (w.alloc (.cells #[.nilIface, .int .i32 0] 52)) := (Below.refl _ _).alloc (Nat.le_refl _) _
  have HT := Lib.hid (And.intro ht hb)
  clear ht hb
  have hon : (#[Value.iface 44 (.pointer (some ⟨d, 0, none⟩)), .int .i32 l].all (·.oneCell')) = true := by simp [Value.oneCell']
  have HON := Lib.hid hon
  clear hon
  go_enter Tryd.func11, Tryd.ntmps11
  go_upto_region 1 with fail
  generalize World.alloc w _ = w1 at *
  go_wp2_with (first | (go_at_call 18; refine (HLL.out _).mono ?_; rintro e w5 ⟨rfl, hb5⟩; have HT5 := Lib.hid (And.intro (th_keep hb5 HT.out.1) (HT.out.2.trans (hb5.mono HT.out.2.size))); clear hb5) | (refine wpList_store_mid rfl 52 _ _ rfl w.heap.size 0 #[.iface 44 (.pointer (some ⟨d, 0, none⟩)), .int .i32 l] rfl rfl HT5.out.1 szRu HON.out ?_))
  have hr := World.rangeAt_setCells_same w5 w.heap.size 0 [.iface 44 (.pointer (some ⟨d, 0, none⟩)), .int .i32 l] HT5.out.1
  exact bodyPost_ret (results_cell_mid rfl _ _ w.heap.size 0 [.iface 44 (.pointer (some ⟨d, 0, none⟩)), .int .i32 l] du rfl hr HU.out hu2 szRu) rfl ⟨rfl, below_setCells (Nat.le_refl _) _ _ HT5.out.2⟩
end Go.Proofs.YtnihlfldlkkobaaDoor.Bx
