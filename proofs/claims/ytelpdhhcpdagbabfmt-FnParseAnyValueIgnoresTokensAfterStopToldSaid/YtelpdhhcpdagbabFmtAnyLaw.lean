/-
  Law 45 (FnParseAnyValueIgnoresTokensAfterStop): for every list of kinds, every tail and every index, the law answers true: where the value is non-empty and stops at a real token, parseAnyValue stops at the same place when every token behind the stop is replaced. Conditions: none beyond the given statement's own (its listed variables, tied; fmt's texts told by the form's own function, which the law's way never asks).
-/
import Derived.Test.YtelpdhhcpdagbabFmtRows
import Derived.Test.YtelpdhhcpdagbabFmtTie
import Derived.Test.YtelpdhhcpdagbabFmtCards
import Derived.WalkKit
import Derived.ProofKit
import Derived.OpenShut
import Derived.ShutString
import Derived.ChangeOld
import Derived.Below
import Derived.Lib.Hide
import Derived.Outline
import Derived.OpenVars
import Derived.Lay
import Derived.LaidMore
import Derived.SevenTiedAt
import Derived.Stop.Joined
import Derived.Stop.JoinedTold
import Derived.Stop.Told
import Derived.Deep.DeepWitnessRef
import Derived.Test.YtelpdhhcpdagbabFmtNw
namespace Go.Proofs.YtelpdhhcpdagbabFmt.fnParseAnyValueIgnoresTokensAfterStop
open Go.ChangeShapes Go.WideShapes Go.ChangeAt Go.RowKit
open Go.ChangeMaps (open_string shut_string)
open Go.Extern.Stop Go.Stop Go.Extern
set_option linter.unusedVariables false

theorem own : ownKnob Tryf.prog.godebug = none := by kernel_rfl
theorem laidOut : laidOutB Tryf.prog = true := by kernel_rfl

/-- What the walk is told of a slice that came in: it is nil; or it leads to a row of 'cap' cells that hold 'zs'. -/
def IsRow {α : Type} [Inhabited α] (mk : α → Value) (ok : α → Prop) (w : World) (a : Option Addr) (len cap : Nat) (zs : List α) : Prop :=
  (a = none ∧ len = 0 ∧ cap = 0 ∧ zs = []) ∨
  ∃ x, a = some x ∧ len ≤ cap ∧ cap ≤ maxLen ∧ zs.length = cap ∧ (∀ i (h : i < zs.length), w.cell? (x.add i) = some (mk zs[i])) ∧ ∀ n ∈ zs, ok n
section
variable {H : Type} {enc : TypeId × Value → H} {P : Program} {w : World} {base : Nat} {hd : Bool}
theorem row_of_int {t e : TypeId} {k : IntKind} {fuel : Nat} {a : Option Addr} {len cap : Nat} {x : DataW H × List MemPlace} (ht : P.underlying t = some (.slice e)) (he : P.underlying e = some (.int k)) (hc : P.cellsOf e = 1)
    (hf : DataW.trod enc P w base (fun _ => true) hd fuel t (Value.slice a len cap).cells.toList = some x) : ∃ zs, IsRow (.int k) (fun n => (Lit.int k n).wf = true) w a len cap zs := by
  rcases open_ints ht he hc hf with ⟨hcs, _⟩ | ⟨y, l, c, zs, hcs, _, hl, hm, hz, _, hcell, hwz⟩
  · simp [Value.cells] at hcs
    obtain ⟨rfl, rfl, rfl⟩ := hcs
    exact ⟨[], .inl ⟨rfl, rfl, rfl, rfl⟩⟩
  · simp [Value.cells] at hcs
    obtain ⟨rfl, rfl, rfl⟩ := hcs
    exact ⟨zs, .inr ⟨_, rfl, hl, hm, by simpa using hz, fun i h => by have := hcell i h; simpa [List.getD, h] using this, hwz⟩⟩
end

open Av Rg
def ZB (Q : Prop) (w : World) (e : Ending) (w' : World) : Prop := (∃ r : Bool, e = .returned (.bool r) ∧ (r = true → Q)) ∧ w = w'
set_option maxRecDepth 100000 in
set_option maxHeartbeats 2000000 in
theorem zzb45 (a : Option Addr) (n c : Nat) (b : Option Addr) (m d : Nat) (x : Int) (w : World) (hn : (n : Int) ≤ 9223372036854775807) (hm : (m : Int) ≤ 9223372036854775807) :
    Calls Tryf.prog 4 #[.slice a n c, .slice b m d, .int .i64 x] w (ZB (((0 : Nat) : Int) ≤ 1048576) w) := by
  go_enter Tryf.func4, Tryf.ntmps4
  by_cases g1 : (1048576 : Int) < (n : Int)
  · go_wp2_with fail
    go_ret
    exact ⟨⟨false, rfl, fun _ => by decide⟩, rfl⟩
  by_cases g2 : (1048576 : Int) < (m : Int)
  · go_wp2_with fail
    go_ret
    exact ⟨⟨false, rfl, fun _ => by decide⟩, rfl⟩
  by_cases k2 : (1048576 : Int) < (n : Int) + (m : Int)
  · go_wp2_with fail
    go_ret
    exact ⟨⟨false, rfl, fun _ => by decide⟩, rfl⟩
  go_wp2_with fail
  go_ret
  exact ⟨⟨true, rfl, fun _ => by decide⟩, rfl⟩
theorem u8_info : (Tryf.prog.info? 5).map (fun i => (i.zero, i.size, i.bytes)) = some (some (.int .u8 0), 1, 1) := by kernel_rfl
def bl (X : Nat → Int) (n : Nat) : List Value := (List.range n).map fun j => .int .u8 (X j)
theorem bl_succ (X : Nat → Int) (n : Nat) : bl X (n + 1) = bl X n ++ [.int .u8 (X n)] := by simp [bl, List.range_succ]
/-- a row of bytes under construction -/
def KR (B n : Nat) (X : Nat → Int) (v : Value) (w0 w : World) : Prop := w.ownsRow B 5 1 v n (bl X n) ∧ Below B w0 w ∧ B ≤ w.heap.size
theorem KR.push {B n : Nat} {X : Nat → Int} {v : Value} {w0 w : World} (h : KR B n X v w0 w) (x : Int) (hx : x = X n) {g cap : Nat} {w' : World}
    (ho : w'.ownsRow B 5 1 (.slice (some ⟨g, 0, none⟩) (n + 1) cap) (n + 1) (bl X n ++ [.int .u8 x])) (o : Obj) (hg : (w.alloc o).grownBy w' v.ownBlock) : KR B (n + 1) X (.slice (some ⟨g, 0, none⟩) (n + 1) cap) w0 w' := by
  obtain ⟨h1, h2, h3⟩ := h
  have hs : (w.alloc o).heap.size = w.heap.size + 1 := by simp
  refine ⟨by rw [bl_succ, ← hx]; exact ho, (h2.alloc h3 o).grown hg (by omega) (fun k hk => (h1.lt k hk).1), ?_⟩
  have := hg.size
  omega
theorem sl_of_own {w : World} {B n c : Nat} {a : Option Addr} {X : Nat → Int} (h : w.ownsRow B 5 1 (.slice a n c) n (bl X n)) : Sl w a n (fun j => .int .u8 (X j)) := by
  intro j hj
  rcases h.2 with ⟨e, h0⟩ | ⟨g, cap, cur, e, _⟩
  · omega
  · injection e with e1 e2 e3
    subst e1
    subst e3
    refine ⟨g, 0, rfl, ?_⟩
    have := h.cellAt j (by omega)
    rw [Nat.zero_add, this]
    simp [bl, hj]

set_option maxRecDepth 100000 in
set_option maxHeartbeats 4000000 in
/-- THE WALK -/
theorem walk (a0 : Option Addr) (len0 cap0 : Nat) (z0 : List Int) (a1 : Option Addr) (len1 cap1 : Nat) (z1 : List Int) (a2 : Int) (w : World) (w0 : IsRow (.int .u8) (fun n => (Lit.int .u8 n).wf = true) w a0 len0 cap0 z0) (w1 : IsRow (.int .u8) (fun n => (Lit.int .u8 n).wf = true) w a1 len1 cap1 z1) (w2 : (Lit.int .i64 a2).wf = true) :
    Calls Tryf.prog 3 #[.slice a0 len0 cap0, .slice a1 len1 cap1, .int .i64 a2] w fun e w' => e = .returned (.bool true) ∧ Below w.heap.size w w' := by
  unfold IsRow at w0 w1
  obtain ⟨hS, hok0, hz0, hm0⟩ := Sl.of_row w0
  obtain ⟨hT, hok1, hz1, hm1⟩ := Sl.of_row w1
  obtain ⟨Z, hZ⟩ : ∃ Z : Nat → Int, Z = fun i => z0.getD i default := ⟨_, rfl⟩
  obtain ⟨Y, hY⟩ : ∃ Z : Nat → Int, Z = fun i => z1.getD i default := ⟨_, rfl⟩
  have HS := Lib.hid (show Sl w a0 len0 (fun i => .int .u8 (Z i)) by rw [hZ]; exact hS)
  have HT := Lib.hid (show Sl w a1 len1 (fun i => .int .u8 (Y i)) by rw [hY]; exact hT)
  have hl0 : (len0 : Int) ≤ 9223372036854775807 := by unfold maxLen at hm0; omega
  have hl1 : (len1 : Int) ≤ 9223372036854775807 := by unfold maxLen at hm1; omega
  clear w0 w1 hS hT hok0 hok1 hm0 hm1 hZ hY
  by_cases hb0 : (65536 : Int) < len0
  · go_enter Tryf.func3, Tryf.ntmps3
    go_wp2_with fail
    refine (zzb45 a0 len0 cap0 a1 len1 cap1 a2 w hl0 hl1).mono ?_
    rintro e wz ⟨⟨r, rfl, -⟩, rfl⟩
    cases r
    all_goals (go_wp2_with fail; go_ret; exact ⟨rfl, Below.refl _ _⟩)
  by_cases hb1 : (65536 : Int) < len1
  · go_enter Tryf.func3, Tryf.ntmps3
    go_wp2_with fail
    refine (zzb45 a0 len0 cap0 a1 len1 cap1 a2 w hl0 hl1).mono ?_
    rintro e wz ⟨⟨r, rfl, -⟩, rfl⟩
    cases r
    all_goals (go_wp2_with fail; go_ret; exact ⟨rfl, Below.refl _ _⟩)
  by_cases hb2 : a2 < 0
  · go_enter Tryf.func3, Tryf.ntmps3
    go_wp2_with fail
    refine (zzb45 a0 len0 cap0 a1 len1 cap1 a2 w hl0 hl1).mono ?_
    rintro e wz ⟨⟨r, rfl, -⟩, rfl⟩
    cases r
    all_goals (go_wp2_with fail; go_ret; exact ⟨rfl, Below.refl _ _⟩)
  by_cases hb3 : (len0 : Int) < a2
  · go_enter Tryf.func3, Tryf.ntmps3
    go_wp2_with fail
    refine (zzb45 a0 len0 cap0 a1 len1 cap1 a2 w hl0 hl1).mono ?_
    rintro e wz ⟨⟨r, rfl, -⟩, rfl⟩
    cases r
    all_goals (go_wp2_with fail; go_ret; exact ⟨rfl, Below.refl _ _⟩)
  obtain ⟨i, rfl⟩ : ∃ i : Nat, a2 = i := ⟨a2.toNat, by omega⟩
  have hn0 : (len0 : Int) ≤ 65536 := by omega
  have hn1 : (len1 : Int) ≤ 65536 := by omega
  have hi : i ≤ len0 := by omega
  have hi2 : (i : Int) ≤ len0 := by omega
  clear hb0 hb1 hb2 hb3 w2
  go_enter Tryf.func3, Tryf.ntmps3
  go_wp2_with fail
  refine (zzb45 a0 len0 cap0 a1 len1 cap1 i w hl0 hl1).mono ?_
  rintro e wz ⟨⟨r, rfl, -⟩, rfl⟩
  clear hl0 hl1
  cases r
  · go_wp2_with fail
    go_ret
    exact ⟨rfl, Below.refl _ _⟩
  go_wp2_with fail
  refine (copy8 a0 len0 cap0 Z w HS.out hz0 (by omega)).mono ?_
  rintro e w1 ⟨an, cn, rfl, hS1, -, -, hb1⟩
  have HS1 := Lib.hid hS1
  have HT1 := Lib.hid (HT.out.keep hb1)
  have HB1 := Lib.hid hb1
  clear hS1 hb1 HS HT hz0
  go_wp2_with fail
  refine (copy8 a1 len1 cap1 Y w1 HT1.out hz1 (by omega)).mono ?_
  rintro e w2 ⟨at2, ct, rfl, hT2, -, -, hb2⟩
  have HS2 := Lib.hid (HS1.out.keep hb2)
  have HT2 := Lib.hid hT2
  have HB2 := Lib.hid (HB1.out.trans (hb2.mono HB1.out.size))
  clear hT2 hb2 HS1 HT1 HB1 hz1
  go_wp2_with fail
  refine (count_any an len0 cn Z (by omega) i hi w2 HS2.out).mono ?_
  rintro e w3 ⟨rfl, rfl, hle⟩
  obtain ⟨m, hm⟩ : ∃ m, R len0 Z [] i = i + m := ⟨R len0 Z [] i - i, by have := R_ge (n := len0) (K := Z) (st := []) (i := i); omega⟩
  have hw : ((R len0 Z [] i : Nat) - (i : Nat) : Int) = (m : Int) := by omega
  rw [hw]
  rw [hm] at hle
  have HR := Lib.hid hm
  clear hw hm
  by_cases h0 : m = 0
  · subst h0
    go_wp2_with fail
    go_ret
    exact ⟨rfl, HB2.out⟩
  have q0 : ((m : Int) == 0) = false := by simp; omega
  have q4 : (0 : Int) < m := by omega
  clear h0
  by_cases h1 : len0 ≤ i + m
  · have q1 : (len0 : Int) ≤ i + m := by omega
    go_wp2_with fail
    go_ret
    exact ⟨rfl, HB2.out⟩
  have q1 : (i : Int) + m < len0 := by omega
  have q2 : i + m < len0 := by omega
  have q3 : i < i + m := by omega
  have q5 : (0 : Int) ≤ i := by omega
  clear h1 hle
  go_wp2_with fail
  refine (pos_any len0 w2 (by omega)).mono ?_
  rintro e w4 ⟨g1, g2, rfl, hP1, hP2, hb4⟩
  have HS4 := Lib.hid (HS2.out.keep hb4)
  have HT4 := Lib.hid (HT2.out.keep hb4)
  have HP1 := Lib.hid hP1
  have HP2 := Lib.hid hP2
  have HB4 := Lib.hid (HB2.out.trans (hb4.mono HB2.out.size))
  clear hP1 hP2 hb4 HS2 HT2 HB2
  go_wp2_with fail
  refine (new_any ⟨#[]⟩ an (some ⟨g1, 0, none⟩) (some ⟨g2, 0, none⟩) len0 cn len0 len0 i pos (fun _ => 1) Z w4 HS4.out HP1.out HP2.out (by omega)).mono ?_
  rintro e w5 ⟨p, g, rfl, hPT, hpb, hgb, hb5⟩
  have HS5 := Lib.hid (HS4.out.keep hb5)
  have HT5 := Lib.hid (HT4.out.keep hb5)
  have HB5 := Lib.hid (HB4.out.trans (hb5.mono HB4.out.size))
  have HPT := Lib.hid hPT
  have HPB := Lib.hid (show w.heap.size ≤ p ∧ (∀ x, an = some x → 0 < len0 → x.block ≠ p) ∧ (∀ x, at2 = some x → 0 < len1 → x.block ≠ p) from
    ⟨Nat.le_trans HB4.out.size hpb, fun x hx h0 => by
      obtain ⟨ab, ao, e, c⟩ := HS4.out 0 h0
      rw [hx] at e; injection e with e; subst e
      have := World.block_lt_of_cell? w4 _ c
      intro e; simp at *; omega, fun x hx h0 => by
      obtain ⟨ab, ao, e, c⟩ := HT4.out 0 h0
      rw [hx] at e; injection e with e; subst e
      have := World.block_lt_of_cell? w4 _ c
      intro e; simp at *; omega⟩)
  clear hPT hpb hb5 HS4 HT4 HB4 HP1 HP2
  go_wp2_with fail
  refine (zany_any p g len0 pos (fun _ => 1) Z ⟨#[]⟩ i w5 HPT.out hgb (by omega) (by rw [HR.out]; exact q3) hi).mono ?_
  rintro e w6 ⟨v6, rfl, hPT6, hg6⟩
  rw [HR.out] at hPT6 ⊢
  rw [Nat.add_sub_cancel_left]
  have HC6 := Lib.hid (show w6.cell? ⟨p, 42, none⟩ = some (.int .i64 ((i + m : Nat) : Int)) from hPT6.1.2.1)
  have HPL := Lib.hid (World.block_lt_of_cell? w6 _ hPT6.1.2.1)
  have HS6 : Hid (Sl w6 an len0 (fun i => .int .u8 (Z i))) := Lib.hid (fun j hj => by
    obtain ⟨ab, ao, e, c⟩ := HS5.out j hj
    exact ⟨ab, ao, e, hg6.cell c (by intro e2; injection e2 with e2; exact HPB.out.2.1 _ e (by omega) e2)⟩)
  have HT6 : Hid (Sl w6 at2 len1 (fun i => .int .u8 (Y i))) := Lib.hid (fun j hj => by
    obtain ⟨ab, ao, e, c⟩ := HT5.out j hj
    exact ⟨ab, ao, e, hg6.cell c (by intro e2; injection e2 with e2; exact HPB.out.2.2 _ e (by omega) e2)⟩)
  have HB6 := Lib.hid (HB5.out.grown hg6 HB5.out.size (fun k hk => by injection hk with hk; have := HPB.out.1; omega))
  clear hPT6 hg6 HS5 HT5 HB5 HPT HPB hgb
  obtain ⟨i0, ji, jz, js, jb⟩ := info_parts u8_info
  have HI := Lib.hid (And.intro ji (And.intro jz (And.intro js jb)))
  obtain ⟨w7, hmk, hown7, hgr7⟩ := run_make_own (P := Tryf.prog) w6 w6.heap.size 22 5 i0 _ 1 Tryf.underlying22 ji jz js .i64 .i64 (i + m + 1 + len1) (by rw [jb]; omega) (by unfold maxLen; omega) (Nat.le_refl _)
  obtain ⟨X, hX⟩ : ∃ X : Nat → Int, X = fun j => if j ≤ i + m then Z j else Y (j - (i + m + 1)) := ⟨_, rfl⟩
  have HX0 := Lib.hid (show ∀ j, j ≤ i + m → X j = Z j from fun j hj => by rw [hX]; exact if_pos hj)
  have HX1 := Lib.hid (show ∀ j, X (i + m + 1 + j) = Y j from fun j => by rw [hX]; show (if i + m + 1 + j ≤ i + m then _ else _) = _; rw [if_neg (by omega)]; congr 1; omega)
  have HK7 := Lib.hid (show KR w6.heap.size 0 X (.slice (some ⟨w6.heap.size, 0, none⟩) 0 (i + m + 1 + len1)) w6 w7 from ⟨hown7, (Below.refl _ _).grown hgr7 (Nat.le_refl _) (fun k hk => by cases hk), hgr7.size⟩)
  have e7 : (((i + m + 1 + len1 : Nat)) : Int) = (i : Int) + m + 1 + len1 := by omega
  rw [e7] at hmk
  clear hX hown7 hgr7 ji jz js jb e7
  go_wp2_with fail
  clear hmk
  go_loopw [13, 14] (fun v iv wr => ∃ t : Nat, t ≤ i + m + 1 ∧ iv = .int .i64 t ∧ Hid (KR w6.heap.size t X v w6 wr)) (fun _ iv _ => i + m + 1 - (intOf iv).toNat)
  case atStart => exact ⟨0, by omega, rfl, HK7⟩
  case round =>
    clear HK7
    obtain ⟨t, ht, rfl, HK⟩ := hrel
    by_cases hlt : t ≤ i + m
    · obtain ⟨ab, ao, hx, c⟩ := HS6.out t (by omega)
      have c := (HK.out.2.1.cell (p := ⟨ab, ao + t, none⟩) (World.block_lt_of_cell? w6 _ c)).trans c
      subst hx
      have p0 : (0 : Int) ≤ t := by omega
      have p1 : (t : Int) < len0 := by omega
      have p2 : (t : Int) ≤ i + m := by omega
      go_wp2_with (first | (at_builtin; refine wpList_append_lies _ rfl (.tmp 85) (.tmp 90) 22 rfl w6.heap.size 5 i0 _ 1 1 Tryf.underlying22 HI.out.1 HI.out.2.1 HI.out.2.2.1 HI.out.2.2.2 rfl (by omega) u13 _ _ rfl (HK.out.1.alloc (.cells #[.int .u8 (Z t)] 5)) ⟨wr.heap.size, 0, none⟩ 1 1 [.int .u8 (Z t)] rfl rfl (World.news_of_block (cs := #[.int .u8 (Z t)]) (heap_alloc_new wr _)) (by simp [Value.oneCell']) (by omega) (by unfold maxLen; omega) (by omega) (by have := HK.out.2.2; simp; omega) _ rfl ?_; intro g9 cap9 w9 ho9 hg9 hat9 hlt9))
      have HN := Lib.hid (HK.out.push (Z t) (HX0.out t hlt).symm ho9 _ hg9)
      clear ho9 hg9 hat9 hlt9 c
      go_wp2_with fail
      go_roundw
      case rel => exact ⟨t + 1, by omega, by go_num, HN⟩
      case measure => simp [intOf]; omega
    · obtain rfl : t = i + m + 1 := by omega
      have p2 : (i : Int) + m < ((i + m + 1 : Nat) : Int) := by omega
      obtain ⟨t, et⟩ : ∃ t, t = i + m + 1 := ⟨_, rfl⟩
      rw [← et] at HK p2 ⊢
      have HE := Lib.hid et
      have q6 : (t : Int) ≤ 65536 := by omega
      clear et hlt ht
      go_wp2_with fail
      clear p2
      go_loopw [13, 15] (fun v iv wr => ∃ s : Nat, s ≤ len1 ∧ iv = .int .i64 s ∧ Hid (KR w6.heap.size (t + s) X v w6 wr)) (fun _ iv _ => len1 - (intOf iv).toNat)
      case atStart => exact ⟨0, by omega, rfl, HK⟩
      case round =>
        clear HK
        obtain ⟨s, hs, rfl, HK⟩ := hrel
        by_cases hlt : s < len1
        · obtain ⟨ab, ao, hx, c⟩ := HT6.out s (by omega)
          have c := (HK.out.2.1.cell (p := ⟨ab, ao + s, none⟩) (World.block_lt_of_cell? w6 _ c)).trans c
          subst hx
          have p0 : (0 : Int) ≤ s := by omega
          have p1 : (s : Int) < len1 := by omega
          go_wp2_with (first | (at_builtin; refine wpList_append_lies _ rfl (.tmp 98) (.tmp 103) 22 rfl w6.heap.size 5 i0 _ 1 1 Tryf.underlying22 HI.out.1 HI.out.2.1 HI.out.2.2.1 HI.out.2.2.2 rfl (by omega) u13 _ _ rfl (HK.out.1.alloc (.cells #[.int .u8 (Y s)] 5)) ⟨wr.heap.size, 0, none⟩ 1 1 [.int .u8 (Y s)] rfl rfl (World.news_of_block (cs := #[.int .u8 (Y s)]) (heap_alloc_new wr _)) (by simp [Value.oneCell']) (by omega) (by unfold maxLen; omega) (by omega) (by have := HK.out.2.2; simp; omega) _ rfl ?_; intro g9 cap9 w9 ho9 hg9 hat9 hlt9))
          have HN := Lib.hid (HK.out.push (Y s) (by have := HE.out; subst this; exact (HX1.out s).symm) ho9 _ hg9)
          clear ho9 hg9 hat9 hlt9 c
          go_wp2_with fail
          go_roundw
          case rel => exact ⟨s + 1, by omega, by go_num, HN⟩
          case measure => simp [intOf]; omega
        · obtain rfl : s = len1 := by omega
          have p3 : ¬ ((s : Int) < s) := by omega
          clear hlt hs
          obtain ⟨N, hN⟩ : ∃ N, N = t + s := ⟨_, rfl⟩
          rw [← hN] at HK
          obtain ⟨ak, ck, rfl⟩ := own_form HK.out.1
          have q7 : (N : Int) ≤ 262144 := by omega
          have q8 : i + m < N := by have := HE.out; omega
          have HSK := Lib.hid (sl_of_own HK.out.1)
          have HB8 := Lib.hid (HB6.out.trans (HK.out.2.1.mono HB6.out.size))
          have HC8 := Lib.hid ((HK.out.2.1.cell (p := ⟨p, 42, none⟩) HPL.out).trans HC6.out)
          have HL8 := Lib.hid (Nat.le_trans HPL.out HK.out.2.2)
          have HA : Hid (R N X [] i = i + m) := Lib.hid (R_agree HR.out q2 q8 (fun j hj => by rw [kat, kat, if_pos (by omega), if_pos (by omega)]; exact HX0.out j hj))
          clear HK HS6 HT6 HE HX0 HX1 hN HB6 HC6 HPL HI
          go_wp2_with fail
          refine (pos_any N wr (by omega)).mono ?_
          rintro e w9 ⟨g3, g4, rfl, hP1, hP2, hb9⟩
          have HS9 := Lib.hid (HSK.out.keep hb9)
          have HP1 := Lib.hid hP1
          have HP2 := Lib.hid hP2
          have HB9 := Lib.hid (HB8.out.trans (hb9.mono HB8.out.size))
          have HC9 := Lib.hid (later hb9 HC8.out)
          have HL9 := Lib.hid (Nat.lt_of_lt_of_le HL8.out hb9.size)
          clear hP1 hP2 hb9 HSK HB8 HC8 HL8
          go_wp2_with fail
          refine (new_any ⟨#[]⟩ ak (some ⟨g3, 0, none⟩) (some ⟨g4, 0, none⟩) N ck N N i pos (fun _ => 1) X w9 HS9.out HP1.out HP2.out (by omega)).mono ?_
          rintro e w10 ⟨q, g9, rfl, hPT, hpb, hgb, hb10⟩
          have HB10 := Lib.hid (HB9.out.trans (hb10.mono HB9.out.size))
          have HC10 := Lib.hid (later hb10 HC9.out)
          have HPT := Lib.hid hPT
          have HQ := Lib.hid (show w.heap.size ≤ q ∧ p ≠ q from ⟨Nat.le_trans HB9.out.size hpb, by have := HL9.out; omega⟩)
          clear hPT hpb hb10 HS9 HB9 HP1 HP2 HC9 HL9
          go_wp2_with fail
          refine (zany_any q g9 N pos (fun _ => 1) X ⟨#[]⟩ i w10 HPT.out hgb (by omega) (by rw [HA.out]; exact q3) (by omega)).mono ?_
          rintro e w11 ⟨v11, rfl, hPT11, hg11⟩
          rw [HA.out] at hPT11 ⊢
          rw [Nat.add_sub_cancel_left]
          have c1 : w11.cell? ⟨q, 42, none⟩ = some (.int .i64 ((i + m : Nat) : Int)) := hPT11.1.2.1
          have c2 : w11.cell? ⟨p, 42, none⟩ = some (.int .i64 ((i + m : Nat) : Int)) := hg11.cell HC10.out (by intro e; injection e with e; exact HQ.out.2 e)
          have HB11 := Lib.hid (HB10.out.grown hg11 HB10.out.size (fun k hk => by injection hk with hk; have := HQ.out.1; omega))
          have ee : ((i + m : Nat) : Int) = (i : Int) + m := by omega
          rw [ee] at c1 c2
          have HC1 := Lib.hid c1
          have HC2 := Lib.hid c2
          clear c1 c2 hPT11 hg11 HB10 HC10 HPT HQ hgb ee
          go_wp2_with fail
          refine (zindex_any p ((i : Int) + m) w11 HC2.out).mono ?_
          rintro e w12 ⟨rfl, rfl⟩
          go_wp2_with fail
          refine (zindex_any q ((i : Int) + m) w11 HC1.out).mono ?_
          rintro e w12 ⟨rfl, rfl⟩
          go_wp2_with fail
          go_ret
          exact ⟨by simp, HB11.out⟩

theorem laid_met (os : Os) (args : Array Value) : laidMetH Tryf.prog Rows.fnParseAnyValueIgnoresTokensAfterStopRow.laid ((World.laidAll Tryf.prog os Rows.fnParseAnyValueIgnoresTokensAfterStopRow.laid).forCall (fun _ _ => 0) ⟨#[], args, []⟩).memory := by
  rw [MakeChecks.laidMetH_plain _ _ _ (by kernel_rfl)]; exact laidMet_laidAll _ (by kernel_rfl) (by kernel_rfl)

set_option maxRecDepth 1000000 in
theorem witness (os : Os) (H : Type) (enc : TypeId × Value → H) (F : Stop.Interp) :
    ∃ (w : World) (tape : Tape) (i : Input), w.os = os ∧ (w.forCall tape i).Shaped Tryf.checked.prog ∧ i.vars = [] ∧ Input.okWide Tryf.checked.prog (w.forCall tape i) .any w.heap.size 3 i ∧
      (OpenSpec.ofChange Rows.fnParseAnyValueIgnoresTokensAfterStopSpec).preRow enc Tryf.checked.prog Tryf.f3 Rows.fnParseAnyValueIgnoresTokensAfterStopRow.domain false Rows.fnParseAnyValueIgnoresTokensAfterStopRow.laid (w.forCall tape i).memory i.args ∧ ({ modest := false } : Assume).holds Tryf.checked.prog (lone (Frame.enter Tryf.checked.prog 3 i.args .normal) [] (w.forCall tape i)) ∧ F.answers tape := by
  have hok : Input.okWideB Tryf.checked.prog ((World.laidAll Tryf.prog os Rows.fnParseAnyValueIgnoresTokensAfterStopRow.laid).forCall (fun _ _ => 0) ⟨#[], #[.slice none 0 0, .slice none 0 0, .int .i64 0], []⟩) 3 ⟨#[], #[.slice none 0 0, .slice none 0 0, .int .i64 0], []⟩ = true := by kernel_rfl
  exact ⟨World.laidAll Tryf.prog os Rows.fnParseAnyValueIgnoresTokensAfterStopRow.laid, F.over fun _ _ => 0, ⟨#[], #[.slice none 0 0, .slice none 0 0, .int .i64 0], []⟩, World.laidAll_os _ _ _,
    World.shaped_of_ZipB (by kernel_rfl) (by kernel_rfl), (Input.okWide_of_okWideB (base := 0) hok).1, (Input.okWide_of_okWideB hok).2,
    OpenSpec.preRow_of_B rfl 8 (by kernel_rfl) (by kernel_rfl) (laid_met os _), by
    simp only [Assume.holds]
    exact ⟨by simp, by simp, fun _ => F.over_modest Modest.zero, by simp, by simp⟩, F.over_answers _⟩

set_option maxRecDepth 100000 in
theorem lifted (os : Os) (started : os.Started) (H : Type) (enc : TypeId × Value → H) :
    ReturnsInTold none {} Tryf.checked os 3 .any Input.okWide ((OpenSpec.ofChange Rows.fnParseAnyValueIgnoresTokensAfterStopSpec).preRow enc Tryf.prog Tryf.f3 Rows.fnParseAnyValueIgnoresTokensAfterStopRow.domain false Rows.fnParseAnyValueIgnoresTokensAfterStopRow.laid)
      (fun F => ((OpenSpec.ofChange Rows.fnParseAnyValueIgnoresTokensAfterStopSpec).at F).post enc Tryf.prog Tryf.f3 false true false false) (aloneAtReturn Tryf.prog) nothingAlways := by
  refine returnsInTold_of_row (C := Tryf.checked) (s := OpenSpec.ofChange Rows.fnParseAnyValueIgnoresTokensAfterStopSpec) (by kernel_rfl) own started (by kernel_rfl) Tryf.func3 (witness os H enc) ?_
  intro F W base args ds gs before _ hF hval0 hW hcnd _ _ hL _
  have hval : ∀ (j : Nat) t v, Tryf.f3.params[j]? = some t → args[j]? = some v → Value.okWide Tryf.prog W .any base t v := hval0
  have hW' := hW
  obtain ⟨p, q, hA0, hV, rfl, hfz, hnd⟩ := hW
  have hA : DataW.TrodAll enc Tryf.prog W 0 (fun _ => true) true Tryf.f3.params.toList args.toList ds p := hA0
  rw [Tryf.params3] at hA hval
  obtain ⟨v0, vs0, d0, ds0, p0, q0, hargs, rfl, rfl, h0, r0⟩ := trodAll_cons hA
  obtain ⟨v1, vs1, d1, ds1, p1, q1, rfl, rfl, rfl, h1, r1⟩ := trodAll_cons r0
  obtain ⟨v2, vs2, d2, ds2, p2, q2, rfl, rfl, rfl, h2, r2⟩ := trodAll_cons r1
  obtain ⟨rfl, rfl, rfl⟩ := trodAll_nil r2
  obtain rfl : args = #[v0, v1, v2] := by cases args; simp_all
  have hV1 := hV
  obtain ⟨g0, hg0⟩ : ∃ g, gs = [g] := by
    match gs, hV with
    | [g], _ => exact ⟨g, rfl⟩
  subst hg0
  obtain ⟨a0, len0, cap0, rfl⟩ := okWide_slice Tryf.underlying22 (hval 0 22 v0 rfl rfl)
  have k0 := h0
  have lt0 : ∀ x ∈ p0, x.block < W.heap.size := by obtain ⟨m, hm⟩ := k0; exact DataW.trod_lt m _ _ _ hm
  obtain ⟨z0, w0⟩ : ∃ zs, IsRow (.int .u8) (fun n => (Lit.int .u8 n).wf = true) W a0 len0 cap0 zs := by
    obtain ⟨fuel, hf⟩ := h0
    exact row_of_int Tryf.underlying22 Tryf.underlying5 (by kernel_rfl) hf
  obtain ⟨a1, len1, cap1, rfl⟩ := okWide_slice Tryf.underlying22 (hval 1 22 v1 rfl rfl)
  have k1 := h1
  have lt1 : ∀ x ∈ p1, x.block < W.heap.size := by obtain ⟨m, hm⟩ := k1; exact DataW.trod_lt m _ _ _ hm
  obtain ⟨z1, w1⟩ : ∃ zs, IsRow (.int .u8) (fun n => (Lit.int .u8 n).wf = true) W a1 len1 cap1 zs := by
    obtain ⟨fuel, hf⟩ := h1
    exact row_of_int Tryf.underlying22 Tryf.underlying5 (by kernel_rfl) hf
  obtain ⟨a2, rfl, rfl, rfl, w2⟩ := open_int Tryf.underlying3 (hval 2 3 v2 rfl rfl) h2
  clear hA0 hval0
  refine (walk a0 len0 cap0 z0 a1 len1 cap1 z1 a2 W w0 w1 w2).mono fun e W' ⟨he, bel⟩ => ?_
  subst he
  exact ⟨_, rfl, _, _, _, [], _, _, hW', trodAll_mk1 (shut_bool Tryf.underlying4 _), (trodAll_cons_mk (Below.trod laidOut (by kernel_rfl) (of_decide_eq_true (by kernel_rfl)) k0 bel lt0) (trodAll_cons_mk (Below.trod laidOut (by kernel_rfl) (of_decide_eq_true (by kernel_rfl)) k1 bel lt1) (trodAll_cons_mk (shut_int Tryf.underlying3 w2) trodAll_mk0))), (Below.trodVars laidOut bel (by kernel_rfl) hV1), bel.frame _, fun h => by cases h⟩

theorem stops0 : Tryf.pinned.checked.prog.stops = "fmt.Sprintf" :: [] := by kernel_rfl
theorem stopKnobs : Tryf.pinned.checked.prog.stopKnobs = [] := by kernel_rfl
theorem quiet (os : Os) : Stop.quiet Tryf.pinned.checked.prog os := by
  intro k hk
  rw [stopKnobs] at hk
  cases hk

/-- THE STATEMENT: fmt's texts are told by the form's own Lean function (the law's own way never comes to fmt); the listed variables are tied to the program's text. -/
theorem proved : Rows.FnParseAnyValueIgnoresTokensAfterStopToldSaid :=
  Claim7.holds_of_told_tied_any_at .later 3 Tryf.f3 "fmt.Sprintf" [] [] _ _ _ _ _ (by kernel_rfl) rfl rfl rfl laidOut (by kernel_rfl) rfl ⟨rfl, rfl, rfl, rfl, rfl, rfl, rfl⟩ rfl rfl (by kernel_rfl) (by kernel_rfl) Tryf.func3 (by kernel_rfl)
    (of_decide_eq_true (by kernel_rfl)) (by unfold Func.isWrapper; first | (rw [if_pos (by decide +kernel)]; kernel_rfl) | (rw [if_neg (by decide +kernel)]; exact ⟨rfl, rfl⟩)) stops0.symm rfl stopKnobs.symm (by kernel_rfl)
    (by kernel_rfl) (by kernel_rfl) (by kernel_rfl) (by kernel_rfl) (by kernel_rfl) (by kernel_rfl) (by kernel_rfl) (by kernel_rfl) (by kernel_rfl) rfl (by kernel_rfl) rfl rfl
    rfl rfl
    rfl (by kernel_rfl) (by kernel_rfl) (by kernel_rfl) (by decide) (by kernel_rfl) fnParseAnyValueIgnoresTokensAfterStop_row_tie
    (OpenClaim.moreEntering_of (by kernel_rfl) (by kernel_rfl) (by kernel_rfl) (by kernel_rfl) (by kernel_rfl) (by kernel_rfl) (by kernel_rfl) (by kernel_rfl) (by kernel_rfl) (by kernel_rfl))
    ⟨_, WideRow.started_initial, quiet _⟩
    (fun os started _ H enc _ => lifted os started H enc)
#print axioms proved
end Go.Proofs.YtelpdhhcpdagbabFmt.fnParseAnyValueIgnoresTokensAfterStop
