/-
  zzBytes, the clones, ZZproductToToken.
-/
import Derived.Test.YtbjcolglkegicaaPc
namespace Go.Proofs.Ytbjcolglkegicaa.Pd
open Go.ChangeShapes Go.WideShapes Go.ChangeAt Go.RowKit Rg
set_option linter.unusedVariables false
theorem clones_any_info : (Try.prog.info? 9).map (fun i => (i.zero, i.size, i.bytes)) = some (some (.string ⟨#[]⟩), 1, 16) := by kernel_rfl
set_option maxRecDepth 100000 in
set_option maxHeartbeats 1000000 in
theorem clones_any (a : Option Addr) (n c : Nat) (Z : Nat → ByteArray) (w : World) (h : Sl w a n (fun i => .string (Z i))) (h0 : a = none → n = 0) (hn : (n : Int) ≤ 65536) :
    Calls Try.prog 5 #[.slice a n c] w (Clon a n (fun i => .string (Z i)) w) := by
  have hq : ∀ W n' c', (binOp .eql 22 (.slice a n c) (.slice none n' c')).run Try.prog W = .ok (.bool a.isNone) W := fun W n' c' => Lib.run_eql_slice_nil W 22 9 a n c n' c' (by kernel_rfl)
  obtain ⟨i0, hi, hz0, hz1, hz2⟩ := info_parts clones_any_info
  have hmk := fun W => run_make_rowN (P := Try.prog) 22 9 i0 _ (by kernel_rfl) hi hz0 .i64 .i64 n n (Nat.le_refl _) (by rw [hz2]; omega) (by omega) W
  rw [hz1] at hmk
  have H := Lib.hid h
  clear h
  cases a with
  | none =>
    obtain rfl := h0 rfl
    clear hmk hi hz0 hz1 hz2
    go_enter Try.func5, Try.ntmps5
    go_wp2
    go_ret
    exact ⟨none, 0, rfl, Sl.none_ _ _ _, fun x hx => by simp at hx, Iff.rfl, Below.refl _ _⟩
  | some x =>
    have hT0 : CR w.heap.size w.heap.size n 0 (fun i => .string (Z i)) w (w.alloc (.cells (madeCells #[.string ⟨#[]⟩] n) 9)) := CR.made w n _ _ _ (by simp [madeCells])
    clear h0
    go_enter Try.func5, Try.ntmps5
    go_wp2
    generalize World.alloc w _ = w1 at hT0 ⊢
    have HT0 := Lib.hid hT0
    clear hT0 hmk hi hz0 hz1 hz2 hq
    go_loopw [4] (fun i wr => ∃ k : Nat, k ≤ n ∧ i = .int .i64 k ∧ Hid (CR w.heap.size w.heap.size n k (fun i => .string (Z i)) w wr)) (fun i _ => n - (intOf i).toNat)
    case atStart => exact ⟨0, Nat.zero_le _, rfl, HT0⟩
    case round =>
      clear HT0
      obtain ⟨k, hk, rfl, HT⟩ := hrel
      by_cases hlt : k < n
      · obtain ⟨ab, ao, hx, r0⟩ := H.out k hlt
        simp only [Option.some.injEq] at hx
        subst hx
        have bel := HT.out.2.2.2.2.2
        have t0 : wr.cell? ⟨ab, ao + k, none⟩ = some (.string (Z k)) := (bel.cell (p := ⟨ab, ao + k, none⟩) (World.block_lt_of_cell? w _ r0)).trans r0
        have hne : ab ≠ w.heap.size := by have := World.block_lt_of_cell? w _ r0; simp at this; omega
        have q0 : (0 : Int) ≤ k := by omega
        have q1 : (k : Int) < n := by omega
        obtain ⟨v0, e0⟩ := Option.isSome_iff_exists.1 (HT.out.2.1 k (by omega))
        have hf := HT.out.2.2.1
        have HP := Lib.hid (HT.out.put hlt)
        clear r0 bel
        go_wp2
        exact ⟨⟨k + 1, by omega, by go_num, HP⟩, by simp [intOf]; omega⟩
      · obtain rfl : k = n := by omega
        go_wp2
        go_ret
        exact ⟨some ⟨w.heap.size, 0, none⟩, k, rfl, HT.out.done, fun y hy => by injection hy with hy; subst hy; exact Nat.le_refl _, by simp, HT.out.2.2.2.2.2⟩
theorem cloneb_any_info : (Try.prog.info? 4).map (fun i => (i.zero, i.size, i.bytes)) = some (some (.bool false), 1, 1) := by kernel_rfl
set_option maxRecDepth 100000 in
set_option maxHeartbeats 1000000 in
theorem cloneb_any (a : Option Addr) (n c : Nat) (Z : Nat → Bool) (w : World) (h : Sl w a n (fun i => .bool (Z i))) (h0 : a = none → n = 0) (hn : (n : Int) ≤ 65536) :
    Calls Try.prog 6 #[.slice a n c] w (Clon a n (fun i => .bool (Z i)) w) := by
  have hq : ∀ W n' c', (binOp .eql 23 (.slice a n c) (.slice none n' c')).run Try.prog W = .ok (.bool a.isNone) W := fun W n' c' => Lib.run_eql_slice_nil W 23 4 a n c n' c' (by kernel_rfl)
  obtain ⟨i0, hi, hz0, hz1, hz2⟩ := info_parts cloneb_any_info
  have hmk := fun W => run_make_rowN (P := Try.prog) 23 4 i0 _ (by kernel_rfl) hi hz0 .i64 .i64 n n (Nat.le_refl _) (by rw [hz2]; omega) (by omega) W
  rw [hz1] at hmk
  have H := Lib.hid h
  clear h
  cases a with
  | none =>
    obtain rfl := h0 rfl
    clear hmk hi hz0 hz1 hz2
    go_enter Try.func6, Try.ntmps6
    go_wp2
    go_ret
    exact ⟨none, 0, rfl, Sl.none_ _ _ _, fun x hx => by simp at hx, Iff.rfl, Below.refl _ _⟩
  | some x =>
    have hT0 : CR w.heap.size w.heap.size n 0 (fun i => .bool (Z i)) w (w.alloc (.cells (madeCells #[.bool false] n) 4)) := CR.made w n _ _ _ (by simp [madeCells])
    clear h0
    go_enter Try.func6, Try.ntmps6
    go_wp2
    generalize World.alloc w _ = w1 at hT0 ⊢
    have HT0 := Lib.hid hT0
    clear hT0 hmk hi hz0 hz1 hz2 hq
    go_loopw [4] (fun i wr => ∃ k : Nat, k ≤ n ∧ i = .int .i64 k ∧ Hid (CR w.heap.size w.heap.size n k (fun i => .bool (Z i)) w wr)) (fun i _ => n - (intOf i).toNat)
    case atStart => exact ⟨0, Nat.zero_le _, rfl, HT0⟩
    case round =>
      clear HT0
      obtain ⟨k, hk, rfl, HT⟩ := hrel
      by_cases hlt : k < n
      · obtain ⟨ab, ao, hx, r0⟩ := H.out k hlt
        simp only [Option.some.injEq] at hx
        subst hx
        have bel := HT.out.2.2.2.2.2
        have t0 : wr.cell? ⟨ab, ao + k, none⟩ = some (.bool (Z k)) := (bel.cell (p := ⟨ab, ao + k, none⟩) (World.block_lt_of_cell? w _ r0)).trans r0
        have hne : ab ≠ w.heap.size := by have := World.block_lt_of_cell? w _ r0; simp at this; omega
        have q0 : (0 : Int) ≤ k := by omega
        have q1 : (k : Int) < n := by omega
        obtain ⟨v0, e0⟩ := Option.isSome_iff_exists.1 (HT.out.2.1 k (by omega))
        have hf := HT.out.2.2.1
        have HP := Lib.hid (HT.out.put hlt)
        clear r0 bel
        go_wp2
        exact ⟨⟨k + 1, by omega, by go_num, HP⟩, by simp [intOf]; omega⟩
      · obtain rfl : k = n := by omega
        go_wp2
        go_ret
        exact ⟨some ⟨w.heap.size, 0, none⟩, k, rfl, HT.out.done, fun y hy => by injection hy with hy; subst hy; exact Nat.le_refl _, by simp, HT.out.2.2.2.2.2⟩

def AnyB (w : World) (e : Ending) (w' : World) : Prop := (∃ r : Bool, e = .returned (.bool r)) ∧ w = w'
set_option maxRecDepth 100000 in
set_option maxHeartbeats 1000000 in
theorem bytes_any (a b : Option Addr) (n c m d : Nat) (T : Nat → ByteArray) (ws : Int) (w : World) (h : Sl w a n (fun i => .string (T i))) (hs : ∀ i, i < n → ((T i).size : Int) ≤ 9223372036854775807) (hn : (n : Int) ≤ 9223372036854775807) (hm : (m : Int) ≤ 9223372036854775807) :
    Calls Try.prog 4 #[.slice a n c, .slice b m d, .int .u8 ws] w (AnyB w) := by
  have H := Lib.hid h
  have HS := Lib.hid hs
  clear h hs
  by_cases hg : (1048576 : Int) < n
  · go_enter Try.func4, Try.ntmps4
    go_wp2
    go_ret
    exact ⟨⟨_, rfl⟩, rfl⟩
  have hn2 : (n : Int) ≤ 1048576 := by omega
  clear hg hn
  go_enter Try.func4, Try.ntmps4
  go_wp2_with fail
  go_loop [7, 8] (fun t i => ∃ (k : Nat) (s : Int), k ≤ n ∧ i = .int .i64 k ∧ t = .int .i64 s ∧ 0 ≤ s ∧ s ≤ 1048576) (fun _ i => n - (intOf i).toNat)
  case atStart => exact ⟨0, n, Nat.zero_le _, rfl, rfl, by omega, by omega⟩
  case round =>
    obtain ⟨k, s, hk, rfl, rfl, hs0, hs1⟩ := hrel
    by_cases hlt : k < n
    · obtain ⟨ab, ao, hx, d⟩ := H.out k hlt
      subst hx
      have q0 : (0 : Int) ≤ k := by omega
      have q1 : (k : Int) < n := by omega
      have q2 := HS.out k hlt
      by_cases hg : (1048576 : Int) < (T k).size
      · go_wp2_with fail
        go_ret
        exact ⟨⟨_, rfl⟩, rfl⟩
      · by_cases hg2 : (1048576 : Int) < s + (T k).size
        · go_wp2_with fail
          go_ret
          exact ⟨⟨_, rfl⟩, rfl⟩
        · go_wp2_with fail
          go_round
          case rel => exact ⟨k + 1, s + (T k).size, by omega, by go_num, rfl, by omega, by omega⟩
          case measure => simp [intOf]; omega
    · obtain rfl : k = n := by omega
      by_cases hg : (1048576 : Int) < m
      · go_wp2_with fail
        go_ret
        exact ⟨⟨_, rfl⟩, rfl⟩
      · by_cases hg2 : (1048576 : Int) < s + m
        · go_wp2_with fail
          go_ret
          exact ⟨⟨_, rfl⟩, rfl⟩
        · go_wp2_with fail
          go_ret
          exact ⟨⟨_, rfl⟩, rfl⟩
def ZPrd (n : Nat) (iv : Nat → Bool) (T : Nat → ByteArray) (ws : Int) (w : World) (e : Ending) (w' : World) : Prop :=
  ∃ gb gr cr, e = .returned (.tuple #[.agg #[.pointer (some ⟨gb, 0, none⟩), .string ⟨#[40]⟩, .int .i32 0, .int .u32 0, .int .u16 0, .int .u8 33, .int .u8 0], .bool true]) ∧
    Bk w' gb 41 #[.slice (some ⟨gr, 0, none⟩) (2 * n - 1) cr] ∧ w'.ownsRow w.heap.size 38 7 (.slice (some ⟨gr, 0, none⟩) (2 * n - 1) cr) (2 * n - 1) (rowg (tkc iv T ws) (2 * n - 1)) ∧ Below w.heap.size w w'
set_option maxRecDepth 100000 in
set_option maxHeartbeats 1000000 in
theorem zprod_any (B gt n ct : Nat) (iv : Nat → Bool) (G H : Nat → Nat) (T : Nat → ByteArray) (ws : Int) (w : World) (h1 : w.ownsRow B 49 2 (.slice (some ⟨gt, 0, none⟩) n ct) n (rowg (fun i => tc (iv i) (G i)) n)) (ht : ∀ i, i < n → TV w (iv i) (G i) (H i) (T i)) (h2 : 2 ≤ n) (hn : (n : Int) ≤ 65536) (hc : n ≤ ct) (hi0 : iv 0 = false) :
    Calls Try.prog 10 #[.slice (some ⟨gt, 0, none⟩) n ct, .int .u8 ws] w (ZPrd n iv T ws w) := by
  have HT := Lib.hid (show TI B (w.heap.size + 1) gt n ct iv G H T ((w.alloc (.cells #[.pointer none, .string ⟨#[]⟩, .int .i32 0, .int .u32 0, .int .u16 0, .int .u8 0, .int .u8 0] 38)).alloc (.cells #[.slice (some ⟨gt, 0, none⟩) n ct] 54)) from
    ⟨heap_alloc2_new w _ _, (h1.alloc _).alloc _, fun i hi => ((ht i hi).keep ((Below.refl _ _).alloc (Nat.le_refl _) _)).keep ((Below.refl _ _).alloc (Nat.le_refl _) _)⟩)
  have HZ := Lib.hid (show Bk ((w.alloc (.cells #[.pointer none, .string ⟨#[]⟩, .int .i32 0, .int .u32 0, .int .u16 0, .int .u8 0, .int .u8 0] 38)).alloc (.cells #[.slice (some ⟨gt, 0, none⟩) n ct] 54)) w.heap.size 38 _ from heap_alloc2_old w _ _)
  have HC := Lib.hid (And.intro h2 (And.intro hn (And.intro hc hi0)))
  clear h1 ht h2 hn hc hi0
  go_enter Try.func10, Try.ntmps10
  go_wp2_with fail
  refine (prod_any B (w.heap.size + 1) gt n ct iv G H T ws _ HT.out HC.out.1 HC.out.2.1 HC.out.2.2.1 HC.out.2.2.2).mono ?_
  rintro e w1 ⟨gb, gr, cr, rfl, hX, hO, hb⟩
  have HZ1 := Lib.hid ((HZ.out.keep hb).there_ (n := 7) rfl)
  have HX := Lib.hid hX
  have HO := Lib.hid hO
  have HB := Lib.hid (((((Below.refl w.heap.size w).alloc (Nat.le_refl _) _).alloc (by simp) _)).trans (hb.mono (by simp; omega)))
  have HF := Lib.hid (show gb ≠ w.heap.size ∧ gr ≠ w.heap.size from ⟨by
    rintro rfl
    have := HZ.out.keep hb
    unfold Bk at this hX
    rw [this] at hX
    simp at hX, by have := (hO.lt gr rfl).1; simp at this; omega⟩)
  clear hX hO hb HT HC HZ
  go_wp2_with (refine wpList_store_mid rfl 38 _ _ rfl w.heap.size 0 #[.pointer (some ⟨gb, 0, none⟩), .string ⟨#[40]⟩, .int .i32 0, .int .u32 0, .int .u16 0, .int .u8 33, .int .u8 0] rfl rfl HZ1.out (by kernel_rfl) (by simp [Value.oneCell']) ?_)
  have HR := Lib.hid (World.rangeAt_setCells_same w1 w.heap.size 0 [.pointer (some ⟨gb, 0, none⟩), .string ⟨#[40]⟩, .int .i32 0, .int .u32 0, .int .u16 0, .int .u8 33, .int .u8 0] HZ1.out)
  obtain ⟨du, hu, hu2⟩ := tyTok
  refine bodyPost_ret (results_cell_mid2 rfl _ _ w.heap.size 0 _ du rfl HR.out hu hu2 (by kernel_rfl)) rfl ⟨gb, gr, cr, rfl, HX.out.fars HF.out.1 _ _, own_fars (by simp [Value.ownBlock]; exact HF.out.2) _ _ (own_mono HO.out (by simp; omega)), below_setCells (Nat.le_refl _) _ _ HB.out⟩
end Go.Proofs.Ytbjcolglkegicaa.Pd
