/-
  The cursor's token is the token at the cursor, and looking moves nothing: the Go law FnCurrentAgreesWithAtAndIsStable returns true for every input. No condition.
-/
import Derived.Test.YtfbmomnfbkdbbabRows
import Derived.WalkKit
import Derived.ProofKit
import Derived.OpenShut
import Derived.ShutString
import Derived.ChangeOld
import Derived.Below
import Derived.Lib.Hide
import Derived.Outline
import Derived.Test.YtfbmomnfbkdbbabCur
import Derived.OwnWalk
namespace Go.Proofs.Ytfbmomnfbkdbbab.fnCurrentAgreesWithAtAndIsStable
open Go.ChangeShapes Go.WideShapes Go.ChangeAt Go.RowKit
open Go.ChangeMaps (open_string shut_string)
set_option linter.unusedVariables false

theorem own : ownKnob Try.prog.godebug = none := by kernel_rfl
theorem laidOut : laidOutB Try.prog = true := by kernel_rfl

/-- What the walk is told of a slice that came in: it is nil; or it leads to a row of 'cap' cells that hold 'zs'. -/
def IsRow {α : Type} [Inhabited α] (mk : α → Value) (ok : α → Prop) (w : World) (a : Option Addr) (len cap : Nat) (zs : List α) : Prop :=
  (a = none ∧ len = 0 ∧ cap = 0 ∧ zs = []) ∨
  ∃ x, a = some x ∧ len ≤ cap ∧ cap ≤ maxLen ∧ zs.length = cap ∧ (∀ i (h : i < zs.length), w.cell? (x.add i) = some (mk zs[i])) ∧ ∀ n ∈ zs, ok n
section
variable {H : Type} {enc : TypeId × Value → H} {P : Program} {w : World} {base : Nat} {hd : Bool}
theorem row_of_int {t e : TypeId} {k : IntKind} {fuel : Nat} {a : Option Addr} {len cap : Nat} {x : DataW H × List MemPlace} (ht : P.underlying t = some (.slice e)) (he : P.underlying e = some (.int k)) (hc : P.cellsOf e = 1)
    (hf : DataW.trod enc P w base (fun _ => true) hd fuel t (Value.slice a len cap).cells.toList = some x) : ∃ zs, IsRow (.int k) (fun n => (Lit.int k n).wf = true) w a len cap zs := by
  rcases open_ints ht he hc hf with ⟨hcs, _⟩ | ⟨y, l, c, zs, hcs, _, hl, hm, hz, _, hcell, hwz⟩
  · simp [Value.cells] at hcs
    obtain ⟨rfl, rfl, rfl⟩ := hcs
    exact ⟨[], .inl ⟨rfl, rfl, rfl, rfl⟩⟩
  · simp [Value.cells] at hcs
    obtain ⟨rfl, rfl, rfl⟩ := hcs
    exact ⟨zs, .inr ⟨_, rfl, hl, hm, by simpa using hz, fun i h => by have := hcell i h; simpa [List.getD, h] using this, hwz⟩⟩
end

open Pars Cur
theorem rowOf_of {k : IntKind} {ok : Int → Prop} {w : World} {a : Option Addr} {len cap : Nat} {zs : List Int} (h : IsRow (.int k) ok w a len cap zs) : RowOf k w a len (fun j => zs.getD j 0) := by
  intro j hj
  rcases h with ⟨rfl, rfl, rfl, rfl⟩ | ⟨x, rfl, hl, hm, hz, hcell, hwz⟩
  · omega
  · obtain ⟨ab, ao, sp⟩ := x
    have hjz : j < zs.length := by omega
    have hc := hcell j hjz
    have hs : sp = none := by simpa [Addr.add] using World.cell?_spot (hcell 0 (by omega))
    subst hs
    refine ⟨ab, ao, rfl, ?_⟩
    rw [← add_none]
    simpa [List.getD, hjz] using hc
theorem info5 : (Try.prog.info? 5).map (fun i => (i.zero, i.size, i.bytes)) = some (some (.int .u8 0), 1, 1) := by kernel_rfl
theorem info21 : (Try.prog.info? 21).map (fun i => (i.zero, i.size, i.bytes)) = some (some (.int .i32 0), 1, 4) := by kernel_rfl
set_option maxRecDepth 100000 in
set_option maxHeartbeats 4000000 in
theorem main53_nnn (C : ByteArray)  (n c1 c2 c3 x y : Nat) (S L K : Nat → Int) (w : World) (r1 : RowOf .u8 w none n K) (r2 : RowOf .i32 w none n S) (r3 : RowOf .i32 w none n L)
    (hg : (C.size : Int) + n + 8 * n + 8 * n ≤ 1048576) (hx : (x : Int) ≤ n) :
    Calls Try.prog 4 #[.string C, .slice none n c1, .slice none n c2, .slice none n c3, .int .i64 x, .int .i64 y] w fun e w' => e = .returned (.bool true) ∧ Below w.heap.size w w' := by
  have g0 : (C.size : Int) ≤ 1048576 := by omega
  have g1 : (n : Int) ≤ 1048576 := by omega
  have g2 : (0 : Int) ≤ x := by omega
  have g3 : (0 : Int) ≤ y := by omega
  have g4 : (x : Int) ≤ 1048576 := by omega
  have hy := zzb_yes C none none none n n n c1 c2 c3 x y (by omega) w
  have HY := Lib.hid hy
  clear hy
  have hq1 : ∀ W n' c', (binOp .neq 22 (.slice none n c1) (.slice none n' c')).run Try.prog W = .ok (.bool (!Option.isNone (α := Addr) none)) W := fun W n' c' => run_neq_slice_nil_any W 22 5 none n c1 n' c' Try.underlying22
  have hq2 : ∀ W n' c', (binOp .neq 39 (.slice none n c2) (.slice none n' c')).run Try.prog W = .ok (.bool (!Option.isNone (α := Addr) none)) W := fun W n' c' => run_neq_slice_nil_any W 39 21 none n c2 n' c' Try.underlying39
  have hq3 : ∀ W n' c', (binOp .neq 39 (.slice none n c3) (.slice none n' c')).run Try.prog W = .ok (.bool (!Option.isNone (α := Addr) none)) W := fun W n' c' => run_neq_slice_nil_any W 39 21 none n c3 n' c' Try.underlying39
  obtain ⟨i5, hi5, hz0, hz1, hz2⟩ := info_parts info5
  have hmk1 := fun W => run_make_rowN (P := Try.prog) 22 5 i5 _ Try.underlying22 hi5 hz0 .i64 .i64 n n (Nat.le_refl _) (by rw [hz2]; omega) (by omega) W
  obtain ⟨i21, hi21, hy0, hy1, hy2⟩ := info_parts info21
  have hmk2 := fun W => run_make_rowN (P := Try.prog) 39 21 i21 _ Try.underlying39 hi21 hy0 .i64 .i64 n n (Nat.le_refl _) (by rw [hy2]; omega) (by omega) W
  have R1 := Lib.hid r1
  have R2 := Lib.hid r2
  have R3 := Lib.hid r3
  clear r1 r2 r3
  rw [hz1] at hmk1
  rw [hy1] at hmk2
  clear hi5 hz0 hz1 hz2 hi21 hy0 hy1 hy2
  obtain ⟨tk, ts, tl, ht⟩ : ∃ k s l, trip n S L K C x = .tuple #[.int .u8 k, .int .i32 s, .int .i32 l] := ⟨_, _, _, rfl⟩
  obtain ⟨nk, ns, nl, hnt⟩ : ∃ k s l, trip n S L K C (x + 1) = .tuple #[.int .u8 k, .int .i32 s, .int .i32 l] := ⟨_, _, _, rfl⟩
  obtain ⟨yk, ys, yl, hyt⟩ : ∃ k s l, trip n S L K C y = .tuple #[.int .u8 k, .int .i32 s, .int .i32 l] := ⟨_, _, _, rfl⟩
  have HT := Lib.hid ht
  have HN := Lib.hid hnt
  have HYT := Lib.hid hyt
  clear ht hnt hyt
  go_enter Try.func4, Try.ntmps4
  go_wp2_with fail
  refine HY.out.mono ?_
  rintro e w' ⟨rfl, rfl⟩
  clear HY
  have BW := Lib.hid (Below.refl w.heap.size w)
  go_wp2_with fail
  refine (new_any C none none none n c1 c2 c3 x S L K _ R1.out R2.out R3.out g1).mono ?_
  rintro e w5 ⟨b, g, rfl, hp⟩
  have HP := Lib.hid hp
  clear hp R1 R2 R3
  go_wp2_with fail
  refine (zcur_any _ b g n S L K C x _ _ HP.out).mono ?_
  rintro e w6 ⟨rfl, hb6⟩
  rw [HT.out]
  have HP6 := Lib.hid (HP.out.keep hb6)
  clear HP hb6
  go_wp2_with fail
  refine (zat_any _ b g n S L K C x _ _ HP6.out x x rfl).mono ?_
  rintro e w7 ⟨rfl, hb7⟩
  rw [HT.out]
  have HP7 := Lib.hid (HP6.out.keep hb7)
  clear HP6 hb7
  go_wp2_with fail
  refine (znext_any _ b g n S L K C x _ _ HP7.out g4).mono ?_
  rintro e w8 ⟨rfl, hb8⟩
  rw [HN.out]
  have HP8 := Lib.hid (HP7.out.keep hb8)
  clear HP7 hb8
  go_wp2_with fail
  refine (zat_any _ b g n S L K C x _ _ HP8.out y y rfl).mono ?_
  rintro e w9 ⟨rfl, hb9⟩
  rw [HYT.out]
  have HP9 := Lib.hid (HP8.out.keep hb9)
  clear HP8 hb9
  go_wp2_with fail
  refine (zcur_any _ b g n S L K C x _ _ HP9.out).mono ?_
  rintro e w10 ⟨rfl, hb10⟩
  rw [HT.out]
  have HP10 := Lib.hid (HP9.out.keep hb10)
  clear HP9 hb10
  go_wp2_with fail
  refine (zindex_any _ b g n S L K C x _ _ HP10.out).mono ?_
  rintro e w' ⟨rfl, rfl⟩
  go_wp2
  go_ret
  exact ⟨rfl, BW.out.trans (HP10.out.2.2.2.2.mono BW.out.size)⟩
set_option maxRecDepth 100000 in
set_option maxHeartbeats 4000000 in
theorem main53_nns (C : ByteArray) (x3 : Addr) (n c1 c2 c3 x y : Nat) (S L K : Nat → Int) (w : World) (r1 : RowOf .u8 w none n K) (r2 : RowOf .i32 w none n S) (r3 : RowOf .i32 w (some x3) n L)
    (hg : (C.size : Int) + n + 8 * n + 8 * n ≤ 1048576) (hx : (x : Int) ≤ n) :
    Calls Try.prog 4 #[.string C, .slice none n c1, .slice none n c2, .slice (some x3) n c3, .int .i64 x, .int .i64 y] w fun e w' => e = .returned (.bool true) ∧ Below w.heap.size w w' := by
  have g0 : (C.size : Int) ≤ 1048576 := by omega
  have g1 : (n : Int) ≤ 1048576 := by omega
  have g2 : (0 : Int) ≤ x := by omega
  have g3 : (0 : Int) ≤ y := by omega
  have g4 : (x : Int) ≤ 1048576 := by omega
  have hy := zzb_yes C none none (some x3) n n n c1 c2 c3 x y (by omega) w
  have HY := Lib.hid hy
  clear hy
  have hq1 : ∀ W n' c', (binOp .neq 22 (.slice none n c1) (.slice none n' c')).run Try.prog W = .ok (.bool (!Option.isNone (α := Addr) none)) W := fun W n' c' => run_neq_slice_nil_any W 22 5 none n c1 n' c' Try.underlying22
  have hq2 : ∀ W n' c', (binOp .neq 39 (.slice none n c2) (.slice none n' c')).run Try.prog W = .ok (.bool (!Option.isNone (α := Addr) none)) W := fun W n' c' => run_neq_slice_nil_any W 39 21 none n c2 n' c' Try.underlying39
  have hq3 : ∀ W n' c', (binOp .neq 39 (.slice (some x3) n c3) (.slice none n' c')).run Try.prog W = .ok (.bool (!Option.isNone (α := Addr) (some x3))) W := fun W n' c' => run_neq_slice_nil_any W 39 21 (some x3) n c3 n' c' Try.underlying39
  obtain ⟨i5, hi5, hz0, hz1, hz2⟩ := info_parts info5
  have hmk1 := fun W => run_make_rowN (P := Try.prog) 22 5 i5 _ Try.underlying22 hi5 hz0 .i64 .i64 n n (Nat.le_refl _) (by rw [hz2]; omega) (by omega) W
  obtain ⟨i21, hi21, hy0, hy1, hy2⟩ := info_parts info21
  have hmk2 := fun W => run_make_rowN (P := Try.prog) 39 21 i21 _ Try.underlying39 hi21 hy0 .i64 .i64 n n (Nat.le_refl _) (by rw [hy2]; omega) (by omega) W
  have R1 := Lib.hid r1
  have R2 := Lib.hid r2
  have R3 := Lib.hid r3
  clear r1 r2 r3
  rw [hz1] at hmk1
  rw [hy1] at hmk2
  clear hi5 hz0 hz1 hz2 hi21 hy0 hy1 hy2
  obtain ⟨tk, ts, tl, ht⟩ : ∃ k s l, trip n S L K C x = .tuple #[.int .u8 k, .int .i32 s, .int .i32 l] := ⟨_, _, _, rfl⟩
  obtain ⟨nk, ns, nl, hnt⟩ : ∃ k s l, trip n S L K C (x + 1) = .tuple #[.int .u8 k, .int .i32 s, .int .i32 l] := ⟨_, _, _, rfl⟩
  obtain ⟨yk, ys, yl, hyt⟩ : ∃ k s l, trip n S L K C y = .tuple #[.int .u8 k, .int .i32 s, .int .i32 l] := ⟨_, _, _, rfl⟩
  have HT := Lib.hid ht
  have HN := Lib.hid hnt
  have HYT := Lib.hid hyt
  clear ht hnt hyt
  go_enter Try.func4, Try.ntmps4
  go_wp2_with fail
  refine HY.out.mono ?_
  rintro e w' ⟨rfl, rfl⟩
  clear HY
  have BW := Lib.hid (Below.refl w.heap.size w)
  go_wp2_with ((with_reducible refine copy_row (o := ⟨some 115, _, _, _, _, _⟩) ?_ (.tmp 113) (.tmp 114) 39 21 ?_ Try.underlying39 ?_ n c3 (some x3) .i32 (.int .i32 0) L ?_ ?_ R3.out ?_); (exact rfl); (exact rfl); (kernel_rfl); (exact rfl); (exact rfl))
  intro W3 hb HR
  have BW := Lib.hid (BW.out.trans (hb.mono BW.out.size))
  have R1 := Lib.hid (R1.out.keep hb)
  have R2 := Lib.hid (R2.out.keep hb)
  have R3 := HR
  clear hb
  go_wp2_with fail
  refine (new_any C none none (some ⟨w.heap.size, 0, none⟩) n c1 c2 n x S L K _ R1.out R2.out R3.out g1).mono ?_
  rintro e w5 ⟨b, g, rfl, hp⟩
  have HP := Lib.hid hp
  clear hp R1 R2 R3
  go_wp2_with fail
  refine (zcur_any _ b g n S L K C x _ _ HP.out).mono ?_
  rintro e w6 ⟨rfl, hb6⟩
  rw [HT.out]
  have HP6 := Lib.hid (HP.out.keep hb6)
  clear HP hb6
  go_wp2_with fail
  refine (zat_any _ b g n S L K C x _ _ HP6.out x x rfl).mono ?_
  rintro e w7 ⟨rfl, hb7⟩
  rw [HT.out]
  have HP7 := Lib.hid (HP6.out.keep hb7)
  clear HP6 hb7
  go_wp2_with fail
  refine (znext_any _ b g n S L K C x _ _ HP7.out g4).mono ?_
  rintro e w8 ⟨rfl, hb8⟩
  rw [HN.out]
  have HP8 := Lib.hid (HP7.out.keep hb8)
  clear HP7 hb8
  go_wp2_with fail
  refine (zat_any _ b g n S L K C x _ _ HP8.out y y rfl).mono ?_
  rintro e w9 ⟨rfl, hb9⟩
  rw [HYT.out]
  have HP9 := Lib.hid (HP8.out.keep hb9)
  clear HP8 hb9
  go_wp2_with fail
  refine (zcur_any _ b g n S L K C x _ _ HP9.out).mono ?_
  rintro e w10 ⟨rfl, hb10⟩
  rw [HT.out]
  have HP10 := Lib.hid (HP9.out.keep hb10)
  clear HP9 hb10
  go_wp2_with fail
  refine (zindex_any _ b g n S L K C x _ _ HP10.out).mono ?_
  rintro e w' ⟨rfl, rfl⟩
  go_wp2
  go_ret
  exact ⟨rfl, BW.out.trans (HP10.out.2.2.2.2.mono BW.out.size)⟩
set_option maxRecDepth 100000 in
set_option maxHeartbeats 4000000 in
theorem main53_nsn (C : ByteArray) (x2 : Addr) (n c1 c2 c3 x y : Nat) (S L K : Nat → Int) (w : World) (r1 : RowOf .u8 w none n K) (r2 : RowOf .i32 w (some x2) n S) (r3 : RowOf .i32 w none n L)
    (hg : (C.size : Int) + n + 8 * n + 8 * n ≤ 1048576) (hx : (x : Int) ≤ n) :
    Calls Try.prog 4 #[.string C, .slice none n c1, .slice (some x2) n c2, .slice none n c3, .int .i64 x, .int .i64 y] w fun e w' => e = .returned (.bool true) ∧ Below w.heap.size w w' := by
  have g0 : (C.size : Int) ≤ 1048576 := by omega
  have g1 : (n : Int) ≤ 1048576 := by omega
  have g2 : (0 : Int) ≤ x := by omega
  have g3 : (0 : Int) ≤ y := by omega
  have g4 : (x : Int) ≤ 1048576 := by omega
  have hy := zzb_yes C none (some x2) none n n n c1 c2 c3 x y (by omega) w
  have HY := Lib.hid hy
  clear hy
  have hq1 : ∀ W n' c', (binOp .neq 22 (.slice none n c1) (.slice none n' c')).run Try.prog W = .ok (.bool (!Option.isNone (α := Addr) none)) W := fun W n' c' => run_neq_slice_nil_any W 22 5 none n c1 n' c' Try.underlying22
  have hq2 : ∀ W n' c', (binOp .neq 39 (.slice (some x2) n c2) (.slice none n' c')).run Try.prog W = .ok (.bool (!Option.isNone (α := Addr) (some x2))) W := fun W n' c' => run_neq_slice_nil_any W 39 21 (some x2) n c2 n' c' Try.underlying39
  have hq3 : ∀ W n' c', (binOp .neq 39 (.slice none n c3) (.slice none n' c')).run Try.prog W = .ok (.bool (!Option.isNone (α := Addr) none)) W := fun W n' c' => run_neq_slice_nil_any W 39 21 none n c3 n' c' Try.underlying39
  obtain ⟨i5, hi5, hz0, hz1, hz2⟩ := info_parts info5
  have hmk1 := fun W => run_make_rowN (P := Try.prog) 22 5 i5 _ Try.underlying22 hi5 hz0 .i64 .i64 n n (Nat.le_refl _) (by rw [hz2]; omega) (by omega) W
  obtain ⟨i21, hi21, hy0, hy1, hy2⟩ := info_parts info21
  have hmk2 := fun W => run_make_rowN (P := Try.prog) 39 21 i21 _ Try.underlying39 hi21 hy0 .i64 .i64 n n (Nat.le_refl _) (by rw [hy2]; omega) (by omega) W
  have R1 := Lib.hid r1
  have R2 := Lib.hid r2
  have R3 := Lib.hid r3
  clear r1 r2 r3
  rw [hz1] at hmk1
  rw [hy1] at hmk2
  clear hi5 hz0 hz1 hz2 hi21 hy0 hy1 hy2
  obtain ⟨tk, ts, tl, ht⟩ : ∃ k s l, trip n S L K C x = .tuple #[.int .u8 k, .int .i32 s, .int .i32 l] := ⟨_, _, _, rfl⟩
  obtain ⟨nk, ns, nl, hnt⟩ : ∃ k s l, trip n S L K C (x + 1) = .tuple #[.int .u8 k, .int .i32 s, .int .i32 l] := ⟨_, _, _, rfl⟩
  obtain ⟨yk, ys, yl, hyt⟩ : ∃ k s l, trip n S L K C y = .tuple #[.int .u8 k, .int .i32 s, .int .i32 l] := ⟨_, _, _, rfl⟩
  have HT := Lib.hid ht
  have HN := Lib.hid hnt
  have HYT := Lib.hid hyt
  clear ht hnt hyt
  go_enter Try.func4, Try.ntmps4
  go_wp2_with fail
  refine HY.out.mono ?_
  rintro e w' ⟨rfl, rfl⟩
  clear HY
  have BW := Lib.hid (Below.refl w.heap.size w)
  go_wp2_with ((with_reducible refine copy_row (o := ⟨some 106, _, _, _, _, _⟩) ?_ (.tmp 104) (.tmp 105) 39 21 ?_ Try.underlying39 ?_ n c2 (some x2) .i32 (.int .i32 0) S ?_ ?_ R2.out ?_); (exact rfl); (exact rfl); (kernel_rfl); (exact rfl); (exact rfl))
  intro W2 hb HR
  have BW := Lib.hid (BW.out.trans (hb.mono BW.out.size))
  have R1 := Lib.hid (R1.out.keep hb)
  have R3 := Lib.hid (R3.out.keep hb)
  have R2 := HR
  clear hb
  go_wp2_with fail
  refine (new_any C none (some ⟨w.heap.size, 0, none⟩) none n c1 n c3 x S L K _ R1.out R2.out R3.out g1).mono ?_
  rintro e w5 ⟨b, g, rfl, hp⟩
  have HP := Lib.hid hp
  clear hp R1 R2 R3
  go_wp2_with fail
  refine (zcur_any _ b g n S L K C x _ _ HP.out).mono ?_
  rintro e w6 ⟨rfl, hb6⟩
  rw [HT.out]
  have HP6 := Lib.hid (HP.out.keep hb6)
  clear HP hb6
  go_wp2_with fail
  refine (zat_any _ b g n S L K C x _ _ HP6.out x x rfl).mono ?_
  rintro e w7 ⟨rfl, hb7⟩
  rw [HT.out]
  have HP7 := Lib.hid (HP6.out.keep hb7)
  clear HP6 hb7
  go_wp2_with fail
  refine (znext_any _ b g n S L K C x _ _ HP7.out g4).mono ?_
  rintro e w8 ⟨rfl, hb8⟩
  rw [HN.out]
  have HP8 := Lib.hid (HP7.out.keep hb8)
  clear HP7 hb8
  go_wp2_with fail
  refine (zat_any _ b g n S L K C x _ _ HP8.out y y rfl).mono ?_
  rintro e w9 ⟨rfl, hb9⟩
  rw [HYT.out]
  have HP9 := Lib.hid (HP8.out.keep hb9)
  clear HP8 hb9
  go_wp2_with fail
  refine (zcur_any _ b g n S L K C x _ _ HP9.out).mono ?_
  rintro e w10 ⟨rfl, hb10⟩
  rw [HT.out]
  have HP10 := Lib.hid (HP9.out.keep hb10)
  clear HP9 hb10
  go_wp2_with fail
  refine (zindex_any _ b g n S L K C x _ _ HP10.out).mono ?_
  rintro e w' ⟨rfl, rfl⟩
  go_wp2
  go_ret
  exact ⟨rfl, BW.out.trans (HP10.out.2.2.2.2.mono BW.out.size)⟩
set_option maxRecDepth 100000 in
set_option maxHeartbeats 4000000 in
theorem main53_nss (C : ByteArray) (x2 x3 : Addr) (n c1 c2 c3 x y : Nat) (S L K : Nat → Int) (w : World) (r1 : RowOf .u8 w none n K) (r2 : RowOf .i32 w (some x2) n S) (r3 : RowOf .i32 w (some x3) n L)
    (hg : (C.size : Int) + n + 8 * n + 8 * n ≤ 1048576) (hx : (x : Int) ≤ n) :
    Calls Try.prog 4 #[.string C, .slice none n c1, .slice (some x2) n c2, .slice (some x3) n c3, .int .i64 x, .int .i64 y] w fun e w' => e = .returned (.bool true) ∧ Below w.heap.size w w' := by
  have g0 : (C.size : Int) ≤ 1048576 := by omega
  have g1 : (n : Int) ≤ 1048576 := by omega
  have g2 : (0 : Int) ≤ x := by omega
  have g3 : (0 : Int) ≤ y := by omega
  have g4 : (x : Int) ≤ 1048576 := by omega
  have hy := zzb_yes C none (some x2) (some x3) n n n c1 c2 c3 x y (by omega) w
  have HY := Lib.hid hy
  clear hy
  have hq1 : ∀ W n' c', (binOp .neq 22 (.slice none n c1) (.slice none n' c')).run Try.prog W = .ok (.bool (!Option.isNone (α := Addr) none)) W := fun W n' c' => run_neq_slice_nil_any W 22 5 none n c1 n' c' Try.underlying22
  have hq2 : ∀ W n' c', (binOp .neq 39 (.slice (some x2) n c2) (.slice none n' c')).run Try.prog W = .ok (.bool (!Option.isNone (α := Addr) (some x2))) W := fun W n' c' => run_neq_slice_nil_any W 39 21 (some x2) n c2 n' c' Try.underlying39
  have hq3 : ∀ W n' c', (binOp .neq 39 (.slice (some x3) n c3) (.slice none n' c')).run Try.prog W = .ok (.bool (!Option.isNone (α := Addr) (some x3))) W := fun W n' c' => run_neq_slice_nil_any W 39 21 (some x3) n c3 n' c' Try.underlying39
  obtain ⟨i5, hi5, hz0, hz1, hz2⟩ := info_parts info5
  have hmk1 := fun W => run_make_rowN (P := Try.prog) 22 5 i5 _ Try.underlying22 hi5 hz0 .i64 .i64 n n (Nat.le_refl _) (by rw [hz2]; omega) (by omega) W
  obtain ⟨i21, hi21, hy0, hy1, hy2⟩ := info_parts info21
  have hmk2 := fun W => run_make_rowN (P := Try.prog) 39 21 i21 _ Try.underlying39 hi21 hy0 .i64 .i64 n n (Nat.le_refl _) (by rw [hy2]; omega) (by omega) W
  have R1 := Lib.hid r1
  have R2 := Lib.hid r2
  have R3 := Lib.hid r3
  clear r1 r2 r3
  rw [hz1] at hmk1
  rw [hy1] at hmk2
  clear hi5 hz0 hz1 hz2 hi21 hy0 hy1 hy2
  obtain ⟨tk, ts, tl, ht⟩ : ∃ k s l, trip n S L K C x = .tuple #[.int .u8 k, .int .i32 s, .int .i32 l] := ⟨_, _, _, rfl⟩
  obtain ⟨nk, ns, nl, hnt⟩ : ∃ k s l, trip n S L K C (x + 1) = .tuple #[.int .u8 k, .int .i32 s, .int .i32 l] := ⟨_, _, _, rfl⟩
  obtain ⟨yk, ys, yl, hyt⟩ : ∃ k s l, trip n S L K C y = .tuple #[.int .u8 k, .int .i32 s, .int .i32 l] := ⟨_, _, _, rfl⟩
  have HT := Lib.hid ht
  have HN := Lib.hid hnt
  have HYT := Lib.hid hyt
  clear ht hnt hyt
  go_enter Try.func4, Try.ntmps4
  go_wp2_with fail
  refine HY.out.mono ?_
  rintro e w' ⟨rfl, rfl⟩
  clear HY
  have BW := Lib.hid (Below.refl w.heap.size w)
  go_wp2_with ((with_reducible refine copy_row (o := ⟨some 106, _, _, _, _, _⟩) ?_ (.tmp 104) (.tmp 105) 39 21 ?_ Try.underlying39 ?_ n c2 (some x2) .i32 (.int .i32 0) S ?_ ?_ R2.out ?_); (exact rfl); (exact rfl); (kernel_rfl); (exact rfl); (exact rfl))
  intro W2 hb HR
  have BW := Lib.hid (BW.out.trans (hb.mono BW.out.size))
  have R1 := Lib.hid (R1.out.keep hb)
  have R3 := Lib.hid (R3.out.keep hb)
  have R2 := HR
  clear hb
  go_wp2_with ((with_reducible refine copy_row (o := ⟨some 115, _, _, _, _, _⟩) ?_ (.tmp 113) (.tmp 114) 39 21 ?_ Try.underlying39 ?_ n c3 (some x3) .i32 (.int .i32 0) L ?_ ?_ R3.out ?_); (exact rfl); (exact rfl); (kernel_rfl); (exact rfl); (exact rfl))
  intro W3 hb HR
  have BW := Lib.hid (BW.out.trans (hb.mono BW.out.size))
  have R1 := Lib.hid (R1.out.keep hb)
  have R2 := Lib.hid (R2.out.keep hb)
  have R3 := HR
  clear hb
  go_wp2_with fail
  refine (new_any C none (some ⟨w.heap.size, 0, none⟩) (some ⟨W2.heap.size, 0, none⟩) n c1 n n x S L K _ R1.out R2.out R3.out g1).mono ?_
  rintro e w5 ⟨b, g, rfl, hp⟩
  have HP := Lib.hid hp
  clear hp R1 R2 R3
  go_wp2_with fail
  refine (zcur_any _ b g n S L K C x _ _ HP.out).mono ?_
  rintro e w6 ⟨rfl, hb6⟩
  rw [HT.out]
  have HP6 := Lib.hid (HP.out.keep hb6)
  clear HP hb6
  go_wp2_with fail
  refine (zat_any _ b g n S L K C x _ _ HP6.out x x rfl).mono ?_
  rintro e w7 ⟨rfl, hb7⟩
  rw [HT.out]
  have HP7 := Lib.hid (HP6.out.keep hb7)
  clear HP6 hb7
  go_wp2_with fail
  refine (znext_any _ b g n S L K C x _ _ HP7.out g4).mono ?_
  rintro e w8 ⟨rfl, hb8⟩
  rw [HN.out]
  have HP8 := Lib.hid (HP7.out.keep hb8)
  clear HP7 hb8
  go_wp2_with fail
  refine (zat_any _ b g n S L K C x _ _ HP8.out y y rfl).mono ?_
  rintro e w9 ⟨rfl, hb9⟩
  rw [HYT.out]
  have HP9 := Lib.hid (HP8.out.keep hb9)
  clear HP8 hb9
  go_wp2_with fail
  refine (zcur_any _ b g n S L K C x _ _ HP9.out).mono ?_
  rintro e w10 ⟨rfl, hb10⟩
  rw [HT.out]
  have HP10 := Lib.hid (HP9.out.keep hb10)
  clear HP9 hb10
  go_wp2_with fail
  refine (zindex_any _ b g n S L K C x _ _ HP10.out).mono ?_
  rintro e w' ⟨rfl, rfl⟩
  go_wp2
  go_ret
  exact ⟨rfl, BW.out.trans (HP10.out.2.2.2.2.mono BW.out.size)⟩
set_option maxRecDepth 100000 in
set_option maxHeartbeats 4000000 in
theorem main53_snn (C : ByteArray) (x1 : Addr) (n c1 c2 c3 x y : Nat) (S L K : Nat → Int) (w : World) (r1 : RowOf .u8 w (some x1) n K) (r2 : RowOf .i32 w none n S) (r3 : RowOf .i32 w none n L)
    (hg : (C.size : Int) + n + 8 * n + 8 * n ≤ 1048576) (hx : (x : Int) ≤ n) :
    Calls Try.prog 4 #[.string C, .slice (some x1) n c1, .slice none n c2, .slice none n c3, .int .i64 x, .int .i64 y] w fun e w' => e = .returned (.bool true) ∧ Below w.heap.size w w' := by
  have g0 : (C.size : Int) ≤ 1048576 := by omega
  have g1 : (n : Int) ≤ 1048576 := by omega
  have g2 : (0 : Int) ≤ x := by omega
  have g3 : (0 : Int) ≤ y := by omega
  have g4 : (x : Int) ≤ 1048576 := by omega
  have hy := zzb_yes C (some x1) none none n n n c1 c2 c3 x y (by omega) w
  have HY := Lib.hid hy
  clear hy
  have hq1 : ∀ W n' c', (binOp .neq 22 (.slice (some x1) n c1) (.slice none n' c')).run Try.prog W = .ok (.bool (!Option.isNone (α := Addr) (some x1))) W := fun W n' c' => run_neq_slice_nil_any W 22 5 (some x1) n c1 n' c' Try.underlying22
  have hq2 : ∀ W n' c', (binOp .neq 39 (.slice none n c2) (.slice none n' c')).run Try.prog W = .ok (.bool (!Option.isNone (α := Addr) none)) W := fun W n' c' => run_neq_slice_nil_any W 39 21 none n c2 n' c' Try.underlying39
  have hq3 : ∀ W n' c', (binOp .neq 39 (.slice none n c3) (.slice none n' c')).run Try.prog W = .ok (.bool (!Option.isNone (α := Addr) none)) W := fun W n' c' => run_neq_slice_nil_any W 39 21 none n c3 n' c' Try.underlying39
  obtain ⟨i5, hi5, hz0, hz1, hz2⟩ := info_parts info5
  have hmk1 := fun W => run_make_rowN (P := Try.prog) 22 5 i5 _ Try.underlying22 hi5 hz0 .i64 .i64 n n (Nat.le_refl _) (by rw [hz2]; omega) (by omega) W
  obtain ⟨i21, hi21, hy0, hy1, hy2⟩ := info_parts info21
  have hmk2 := fun W => run_make_rowN (P := Try.prog) 39 21 i21 _ Try.underlying39 hi21 hy0 .i64 .i64 n n (Nat.le_refl _) (by rw [hy2]; omega) (by omega) W
  have R1 := Lib.hid r1
  have R2 := Lib.hid r2
  have R3 := Lib.hid r3
  clear r1 r2 r3
  rw [hz1] at hmk1
  rw [hy1] at hmk2
  clear hi5 hz0 hz1 hz2 hi21 hy0 hy1 hy2
  obtain ⟨tk, ts, tl, ht⟩ : ∃ k s l, trip n S L K C x = .tuple #[.int .u8 k, .int .i32 s, .int .i32 l] := ⟨_, _, _, rfl⟩
  obtain ⟨nk, ns, nl, hnt⟩ : ∃ k s l, trip n S L K C (x + 1) = .tuple #[.int .u8 k, .int .i32 s, .int .i32 l] := ⟨_, _, _, rfl⟩
  obtain ⟨yk, ys, yl, hyt⟩ : ∃ k s l, trip n S L K C y = .tuple #[.int .u8 k, .int .i32 s, .int .i32 l] := ⟨_, _, _, rfl⟩
  have HT := Lib.hid ht
  have HN := Lib.hid hnt
  have HYT := Lib.hid hyt
  clear ht hnt hyt
  go_enter Try.func4, Try.ntmps4
  go_wp2_with fail
  refine HY.out.mono ?_
  rintro e w' ⟨rfl, rfl⟩
  clear HY
  have BW := Lib.hid (Below.refl w.heap.size w)
  go_wp2_with ((with_reducible refine copy_row (o := ⟨some 97, _, _, _, _, _⟩) ?_ (.tmp 95) (.tmp 96) 22 5 ?_ Try.underlying22 ?_ n c1 (some x1) .u8 (.int .u8 0) K ?_ ?_ R1.out ?_); (exact rfl); (exact rfl); (kernel_rfl); (exact rfl); (exact rfl))
  intro W1 hb HR
  have BW := Lib.hid (BW.out.trans (hb.mono BW.out.size))
  have R2 := Lib.hid (R2.out.keep hb)
  have R3 := Lib.hid (R3.out.keep hb)
  have R1 := HR
  clear hb
  go_wp2_with fail
  refine (new_any C (some ⟨w.heap.size, 0, none⟩) none none n n c2 c3 x S L K _ R1.out R2.out R3.out g1).mono ?_
  rintro e w5 ⟨b, g, rfl, hp⟩
  have HP := Lib.hid hp
  clear hp R1 R2 R3
  go_wp2_with fail
  refine (zcur_any _ b g n S L K C x _ _ HP.out).mono ?_
  rintro e w6 ⟨rfl, hb6⟩
  rw [HT.out]
  have HP6 := Lib.hid (HP.out.keep hb6)
  clear HP hb6
  go_wp2_with fail
  refine (zat_any _ b g n S L K C x _ _ HP6.out x x rfl).mono ?_
  rintro e w7 ⟨rfl, hb7⟩
  rw [HT.out]
  have HP7 := Lib.hid (HP6.out.keep hb7)
  clear HP6 hb7
  go_wp2_with fail
  refine (znext_any _ b g n S L K C x _ _ HP7.out g4).mono ?_
  rintro e w8 ⟨rfl, hb8⟩
  rw [HN.out]
  have HP8 := Lib.hid (HP7.out.keep hb8)
  clear HP7 hb8
  go_wp2_with fail
  refine (zat_any _ b g n S L K C x _ _ HP8.out y y rfl).mono ?_
  rintro e w9 ⟨rfl, hb9⟩
  rw [HYT.out]
  have HP9 := Lib.hid (HP8.out.keep hb9)
  clear HP8 hb9
  go_wp2_with fail
  refine (zcur_any _ b g n S L K C x _ _ HP9.out).mono ?_
  rintro e w10 ⟨rfl, hb10⟩
  rw [HT.out]
  have HP10 := Lib.hid (HP9.out.keep hb10)
  clear HP9 hb10
  go_wp2_with fail
  refine (zindex_any _ b g n S L K C x _ _ HP10.out).mono ?_
  rintro e w' ⟨rfl, rfl⟩
  go_wp2
  go_ret
  exact ⟨rfl, BW.out.trans (HP10.out.2.2.2.2.mono BW.out.size)⟩
set_option maxRecDepth 100000 in
set_option maxHeartbeats 4000000 in
theorem main53_sns (C : ByteArray) (x1 x3 : Addr) (n c1 c2 c3 x y : Nat) (S L K : Nat → Int) (w : World) (r1 : RowOf .u8 w (some x1) n K) (r2 : RowOf .i32 w none n S) (r3 : RowOf .i32 w (some x3) n L)
    (hg : (C.size : Int) + n + 8 * n + 8 * n ≤ 1048576) (hx : (x : Int) ≤ n) :
    Calls Try.prog 4 #[.string C, .slice (some x1) n c1, .slice none n c2, .slice (some x3) n c3, .int .i64 x, .int .i64 y] w fun e w' => e = .returned (.bool true) ∧ Below w.heap.size w w' := by
  have g0 : (C.size : Int) ≤ 1048576 := by omega
  have g1 : (n : Int) ≤ 1048576 := by omega
  have g2 : (0 : Int) ≤ x := by omega
  have g3 : (0 : Int) ≤ y := by omega
  have g4 : (x : Int) ≤ 1048576 := by omega
  have hy := zzb_yes C (some x1) none (some x3) n n n c1 c2 c3 x y (by omega) w
  have HY := Lib.hid hy
  clear hy
  have hq1 : ∀ W n' c', (binOp .neq 22 (.slice (some x1) n c1) (.slice none n' c')).run Try.prog W = .ok (.bool (!Option.isNone (α := Addr) (some x1))) W := fun W n' c' => run_neq_slice_nil_any W 22 5 (some x1) n c1 n' c' Try.underlying22
  have hq2 : ∀ W n' c', (binOp .neq 39 (.slice none n c2) (.slice none n' c')).run Try.prog W = .ok (.bool (!Option.isNone (α := Addr) none)) W := fun W n' c' => run_neq_slice_nil_any W 39 21 none n c2 n' c' Try.underlying39
  have hq3 : ∀ W n' c', (binOp .neq 39 (.slice (some x3) n c3) (.slice none n' c')).run Try.prog W = .ok (.bool (!Option.isNone (α := Addr) (some x3))) W := fun W n' c' => run_neq_slice_nil_any W 39 21 (some x3) n c3 n' c' Try.underlying39
  obtain ⟨i5, hi5, hz0, hz1, hz2⟩ := info_parts info5
  have hmk1 := fun W => run_make_rowN (P := Try.prog) 22 5 i5 _ Try.underlying22 hi5 hz0 .i64 .i64 n n (Nat.le_refl _) (by rw [hz2]; omega) (by omega) W
  obtain ⟨i21, hi21, hy0, hy1, hy2⟩ := info_parts info21
  have hmk2 := fun W => run_make_rowN (P := Try.prog) 39 21 i21 _ Try.underlying39 hi21 hy0 .i64 .i64 n n (Nat.le_refl _) (by rw [hy2]; omega) (by omega) W
  have R1 := Lib.hid r1
  have R2 := Lib.hid r2
  have R3 := Lib.hid r3
  clear r1 r2 r3
  rw [hz1] at hmk1
  rw [hy1] at hmk2
  clear hi5 hz0 hz1 hz2 hi21 hy0 hy1 hy2
  obtain ⟨tk, ts, tl, ht⟩ : ∃ k s l, trip n S L K C x = .tuple #[.int .u8 k, .int .i32 s, .int .i32 l] := ⟨_, _, _, rfl⟩
  obtain ⟨nk, ns, nl, hnt⟩ : ∃ k s l, trip n S L K C (x + 1) = .tuple #[.int .u8 k, .int .i32 s, .int .i32 l] := ⟨_, _, _, rfl⟩
  obtain ⟨yk, ys, yl, hyt⟩ : ∃ k s l, trip n S L K C y = .tuple #[.int .u8 k, .int .i32 s, .int .i32 l] := ⟨_, _, _, rfl⟩
  have HT := Lib.hid ht
  have HN := Lib.hid hnt
  have HYT := Lib.hid hyt
  clear ht hnt hyt
  go_enter Try.func4, Try.ntmps4
  go_wp2_with fail
  refine HY.out.mono ?_
  rintro e w' ⟨rfl, rfl⟩
  clear HY
  have BW := Lib.hid (Below.refl w.heap.size w)
  go_wp2_with ((with_reducible refine copy_row (o := ⟨some 97, _, _, _, _, _⟩) ?_ (.tmp 95) (.tmp 96) 22 5 ?_ Try.underlying22 ?_ n c1 (some x1) .u8 (.int .u8 0) K ?_ ?_ R1.out ?_); (exact rfl); (exact rfl); (kernel_rfl); (exact rfl); (exact rfl))
  intro W1 hb HR
  have BW := Lib.hid (BW.out.trans (hb.mono BW.out.size))
  have R2 := Lib.hid (R2.out.keep hb)
  have R3 := Lib.hid (R3.out.keep hb)
  have R1 := HR
  clear hb
  go_wp2_with ((with_reducible refine copy_row (o := ⟨some 115, _, _, _, _, _⟩) ?_ (.tmp 113) (.tmp 114) 39 21 ?_ Try.underlying39 ?_ n c3 (some x3) .i32 (.int .i32 0) L ?_ ?_ R3.out ?_); (exact rfl); (exact rfl); (kernel_rfl); (exact rfl); (exact rfl))
  intro W3 hb HR
  have BW := Lib.hid (BW.out.trans (hb.mono BW.out.size))
  have R1 := Lib.hid (R1.out.keep hb)
  have R2 := Lib.hid (R2.out.keep hb)
  have R3 := HR
  clear hb
  go_wp2_with fail
  refine (new_any C (some ⟨w.heap.size, 0, none⟩) none (some ⟨W1.heap.size, 0, none⟩) n n c2 n x S L K _ R1.out R2.out R3.out g1).mono ?_
  rintro e w5 ⟨b, g, rfl, hp⟩
  have HP := Lib.hid hp
  clear hp R1 R2 R3
  go_wp2_with fail
  refine (zcur_any _ b g n S L K C x _ _ HP.out).mono ?_
  rintro e w6 ⟨rfl, hb6⟩
  rw [HT.out]
  have HP6 := Lib.hid (HP.out.keep hb6)
  clear HP hb6
  go_wp2_with fail
  refine (zat_any _ b g n S L K C x _ _ HP6.out x x rfl).mono ?_
  rintro e w7 ⟨rfl, hb7⟩
  rw [HT.out]
  have HP7 := Lib.hid (HP6.out.keep hb7)
  clear HP6 hb7
  go_wp2_with fail
  refine (znext_any _ b g n S L K C x _ _ HP7.out g4).mono ?_
  rintro e w8 ⟨rfl, hb8⟩
  rw [HN.out]
  have HP8 := Lib.hid (HP7.out.keep hb8)
  clear HP7 hb8
  go_wp2_with fail
  refine (zat_any _ b g n S L K C x _ _ HP8.out y y rfl).mono ?_
  rintro e w9 ⟨rfl, hb9⟩
  rw [HYT.out]
  have HP9 := Lib.hid (HP8.out.keep hb9)
  clear HP8 hb9
  go_wp2_with fail
  refine (zcur_any _ b g n S L K C x _ _ HP9.out).mono ?_
  rintro e w10 ⟨rfl, hb10⟩
  rw [HT.out]
  have HP10 := Lib.hid (HP9.out.keep hb10)
  clear HP9 hb10
  go_wp2_with fail
  refine (zindex_any _ b g n S L K C x _ _ HP10.out).mono ?_
  rintro e w' ⟨rfl, rfl⟩
  go_wp2
  go_ret
  exact ⟨rfl, BW.out.trans (HP10.out.2.2.2.2.mono BW.out.size)⟩
set_option maxRecDepth 100000 in
set_option maxHeartbeats 4000000 in
theorem main53_ssn (C : ByteArray) (x1 x2 : Addr) (n c1 c2 c3 x y : Nat) (S L K : Nat → Int) (w : World) (r1 : RowOf .u8 w (some x1) n K) (r2 : RowOf .i32 w (some x2) n S) (r3 : RowOf .i32 w none n L)
    (hg : (C.size : Int) + n + 8 * n + 8 * n ≤ 1048576) (hx : (x : Int) ≤ n) :
    Calls Try.prog 4 #[.string C, .slice (some x1) n c1, .slice (some x2) n c2, .slice none n c3, .int .i64 x, .int .i64 y] w fun e w' => e = .returned (.bool true) ∧ Below w.heap.size w w' := by
  have g0 : (C.size : Int) ≤ 1048576 := by omega
  have g1 : (n : Int) ≤ 1048576 := by omega
  have g2 : (0 : Int) ≤ x := by omega
  have g3 : (0 : Int) ≤ y := by omega
  have g4 : (x : Int) ≤ 1048576 := by omega
  have hy := zzb_yes C (some x1) (some x2) none n n n c1 c2 c3 x y (by omega) w
  have HY := Lib.hid hy
  clear hy
  have hq1 : ∀ W n' c', (binOp .neq 22 (.slice (some x1) n c1) (.slice none n' c')).run Try.prog W = .ok (.bool (!Option.isNone (α := Addr) (some x1))) W := fun W n' c' => run_neq_slice_nil_any W 22 5 (some x1) n c1 n' c' Try.underlying22
  have hq2 : ∀ W n' c', (binOp .neq 39 (.slice (some x2) n c2) (.slice none n' c')).run Try.prog W = .ok (.bool (!Option.isNone (α := Addr) (some x2))) W := fun W n' c' => run_neq_slice_nil_any W 39 21 (some x2) n c2 n' c' Try.underlying39
  have hq3 : ∀ W n' c', (binOp .neq 39 (.slice none n c3) (.slice none n' c')).run Try.prog W = .ok (.bool (!Option.isNone (α := Addr) none)) W := fun W n' c' => run_neq_slice_nil_any W 39 21 none n c3 n' c' Try.underlying39
  obtain ⟨i5, hi5, hz0, hz1, hz2⟩ := info_parts info5
  have hmk1 := fun W => run_make_rowN (P := Try.prog) 22 5 i5 _ Try.underlying22 hi5 hz0 .i64 .i64 n n (Nat.le_refl _) (by rw [hz2]; omega) (by omega) W
  obtain ⟨i21, hi21, hy0, hy1, hy2⟩ := info_parts info21
  have hmk2 := fun W => run_make_rowN (P := Try.prog) 39 21 i21 _ Try.underlying39 hi21 hy0 .i64 .i64 n n (Nat.le_refl _) (by rw [hy2]; omega) (by omega) W
  have R1 := Lib.hid r1
  have R2 := Lib.hid r2
  have R3 := Lib.hid r3
  clear r1 r2 r3
  rw [hz1] at hmk1
  rw [hy1] at hmk2
  clear hi5 hz0 hz1 hz2 hi21 hy0 hy1 hy2
  obtain ⟨tk, ts, tl, ht⟩ : ∃ k s l, trip n S L K C x = .tuple #[.int .u8 k, .int .i32 s, .int .i32 l] := ⟨_, _, _, rfl⟩
  obtain ⟨nk, ns, nl, hnt⟩ : ∃ k s l, trip n S L K C (x + 1) = .tuple #[.int .u8 k, .int .i32 s, .int .i32 l] := ⟨_, _, _, rfl⟩
  obtain ⟨yk, ys, yl, hyt⟩ : ∃ k s l, trip n S L K C y = .tuple #[.int .u8 k, .int .i32 s, .int .i32 l] := ⟨_, _, _, rfl⟩
  have HT := Lib.hid ht
  have HN := Lib.hid hnt
  have HYT := Lib.hid hyt
  clear ht hnt hyt
  go_enter Try.func4, Try.ntmps4
  go_wp2_with fail
  refine HY.out.mono ?_
  rintro e w' ⟨rfl, rfl⟩
  clear HY
  have BW := Lib.hid (Below.refl w.heap.size w)
  go_wp2_with ((with_reducible refine copy_row (o := ⟨some 97, _, _, _, _, _⟩) ?_ (.tmp 95) (.tmp 96) 22 5 ?_ Try.underlying22 ?_ n c1 (some x1) .u8 (.int .u8 0) K ?_ ?_ R1.out ?_); (exact rfl); (exact rfl); (kernel_rfl); (exact rfl); (exact rfl))
  intro W1 hb HR
  have BW := Lib.hid (BW.out.trans (hb.mono BW.out.size))
  have R2 := Lib.hid (R2.out.keep hb)
  have R3 := Lib.hid (R3.out.keep hb)
  have R1 := HR
  clear hb
  go_wp2_with ((with_reducible refine copy_row (o := ⟨some 106, _, _, _, _, _⟩) ?_ (.tmp 104) (.tmp 105) 39 21 ?_ Try.underlying39 ?_ n c2 (some x2) .i32 (.int .i32 0) S ?_ ?_ R2.out ?_); (exact rfl); (exact rfl); (kernel_rfl); (exact rfl); (exact rfl))
  intro W2 hb HR
  have BW := Lib.hid (BW.out.trans (hb.mono BW.out.size))
  have R1 := Lib.hid (R1.out.keep hb)
  have R3 := Lib.hid (R3.out.keep hb)
  have R2 := HR
  clear hb
  go_wp2_with fail
  refine (new_any C (some ⟨w.heap.size, 0, none⟩) (some ⟨W1.heap.size, 0, none⟩) none n n n c3 x S L K _ R1.out R2.out R3.out g1).mono ?_
  rintro e w5 ⟨b, g, rfl, hp⟩
  have HP := Lib.hid hp
  clear hp R1 R2 R3
  go_wp2_with fail
  refine (zcur_any _ b g n S L K C x _ _ HP.out).mono ?_
  rintro e w6 ⟨rfl, hb6⟩
  rw [HT.out]
  have HP6 := Lib.hid (HP.out.keep hb6)
  clear HP hb6
  go_wp2_with fail
  refine (zat_any _ b g n S L K C x _ _ HP6.out x x rfl).mono ?_
  rintro e w7 ⟨rfl, hb7⟩
  rw [HT.out]
  have HP7 := Lib.hid (HP6.out.keep hb7)
  clear HP6 hb7
  go_wp2_with fail
  refine (znext_any _ b g n S L K C x _ _ HP7.out g4).mono ?_
  rintro e w8 ⟨rfl, hb8⟩
  rw [HN.out]
  have HP8 := Lib.hid (HP7.out.keep hb8)
  clear HP7 hb8
  go_wp2_with fail
  refine (zat_any _ b g n S L K C x _ _ HP8.out y y rfl).mono ?_
  rintro e w9 ⟨rfl, hb9⟩
  rw [HYT.out]
  have HP9 := Lib.hid (HP8.out.keep hb9)
  clear HP8 hb9
  go_wp2_with fail
  refine (zcur_any _ b g n S L K C x _ _ HP9.out).mono ?_
  rintro e w10 ⟨rfl, hb10⟩
  rw [HT.out]
  have HP10 := Lib.hid (HP9.out.keep hb10)
  clear HP9 hb10
  go_wp2_with fail
  refine (zindex_any _ b g n S L K C x _ _ HP10.out).mono ?_
  rintro e w' ⟨rfl, rfl⟩
  go_wp2
  go_ret
  exact ⟨rfl, BW.out.trans (HP10.out.2.2.2.2.mono BW.out.size)⟩
set_option maxRecDepth 100000 in
set_option maxHeartbeats 4000000 in
theorem main53_sss (C : ByteArray) (x1 x2 x3 : Addr) (n c1 c2 c3 x y : Nat) (S L K : Nat → Int) (w : World) (r1 : RowOf .u8 w (some x1) n K) (r2 : RowOf .i32 w (some x2) n S) (r3 : RowOf .i32 w (some x3) n L)
    (hg : (C.size : Int) + n + 8 * n + 8 * n ≤ 1048576) (hx : (x : Int) ≤ n) :
    Calls Try.prog 4 #[.string C, .slice (some x1) n c1, .slice (some x2) n c2, .slice (some x3) n c3, .int .i64 x, .int .i64 y] w fun e w' => e = .returned (.bool true) ∧ Below w.heap.size w w' := by
  have g0 : (C.size : Int) ≤ 1048576 := by omega
  have g1 : (n : Int) ≤ 1048576 := by omega
  have g2 : (0 : Int) ≤ x := by omega
  have g3 : (0 : Int) ≤ y := by omega
  have g4 : (x : Int) ≤ 1048576 := by omega
  have hy := zzb_yes C (some x1) (some x2) (some x3) n n n c1 c2 c3 x y (by omega) w
  have HY := Lib.hid hy
  clear hy
  have hq1 : ∀ W n' c', (binOp .neq 22 (.slice (some x1) n c1) (.slice none n' c')).run Try.prog W = .ok (.bool (!Option.isNone (α := Addr) (some x1))) W := fun W n' c' => run_neq_slice_nil_any W 22 5 (some x1) n c1 n' c' Try.underlying22
  have hq2 : ∀ W n' c', (binOp .neq 39 (.slice (some x2) n c2) (.slice none n' c')).run Try.prog W = .ok (.bool (!Option.isNone (α := Addr) (some x2))) W := fun W n' c' => run_neq_slice_nil_any W 39 21 (some x2) n c2 n' c' Try.underlying39
  have hq3 : ∀ W n' c', (binOp .neq 39 (.slice (some x3) n c3) (.slice none n' c')).run Try.prog W = .ok (.bool (!Option.isNone (α := Addr) (some x3))) W := fun W n' c' => run_neq_slice_nil_any W 39 21 (some x3) n c3 n' c' Try.underlying39
  obtain ⟨i5, hi5, hz0, hz1, hz2⟩ := info_parts info5
  have hmk1 := fun W => run_make_rowN (P := Try.prog) 22 5 i5 _ Try.underlying22 hi5 hz0 .i64 .i64 n n (Nat.le_refl _) (by rw [hz2]; omega) (by omega) W
  obtain ⟨i21, hi21, hy0, hy1, hy2⟩ := info_parts info21
  have hmk2 := fun W => run_make_rowN (P := Try.prog) 39 21 i21 _ Try.underlying39 hi21 hy0 .i64 .i64 n n (Nat.le_refl _) (by rw [hy2]; omega) (by omega) W
  have R1 := Lib.hid r1
  have R2 := Lib.hid r2
  have R3 := Lib.hid r3
  clear r1 r2 r3
  rw [hz1] at hmk1
  rw [hy1] at hmk2
  clear hi5 hz0 hz1 hz2 hi21 hy0 hy1 hy2
  obtain ⟨tk, ts, tl, ht⟩ : ∃ k s l, trip n S L K C x = .tuple #[.int .u8 k, .int .i32 s, .int .i32 l] := ⟨_, _, _, rfl⟩
  obtain ⟨nk, ns, nl, hnt⟩ : ∃ k s l, trip n S L K C (x + 1) = .tuple #[.int .u8 k, .int .i32 s, .int .i32 l] := ⟨_, _, _, rfl⟩
  obtain ⟨yk, ys, yl, hyt⟩ : ∃ k s l, trip n S L K C y = .tuple #[.int .u8 k, .int .i32 s, .int .i32 l] := ⟨_, _, _, rfl⟩
  have HT := Lib.hid ht
  have HN := Lib.hid hnt
  have HYT := Lib.hid hyt
  clear ht hnt hyt
  go_enter Try.func4, Try.ntmps4
  go_wp2_with fail
  refine HY.out.mono ?_
  rintro e w' ⟨rfl, rfl⟩
  clear HY
  have BW := Lib.hid (Below.refl w.heap.size w)
  go_wp2_with ((with_reducible refine copy_row (o := ⟨some 97, _, _, _, _, _⟩) ?_ (.tmp 95) (.tmp 96) 22 5 ?_ Try.underlying22 ?_ n c1 (some x1) .u8 (.int .u8 0) K ?_ ?_ R1.out ?_); (exact rfl); (exact rfl); (kernel_rfl); (exact rfl); (exact rfl))
  intro W1 hb HR
  have BW := Lib.hid (BW.out.trans (hb.mono BW.out.size))
  have R2 := Lib.hid (R2.out.keep hb)
  have R3 := Lib.hid (R3.out.keep hb)
  have R1 := HR
  clear hb
  go_wp2_with ((with_reducible refine copy_row (o := ⟨some 106, _, _, _, _, _⟩) ?_ (.tmp 104) (.tmp 105) 39 21 ?_ Try.underlying39 ?_ n c2 (some x2) .i32 (.int .i32 0) S ?_ ?_ R2.out ?_); (exact rfl); (exact rfl); (kernel_rfl); (exact rfl); (exact rfl))
  intro W2 hb HR
  have BW := Lib.hid (BW.out.trans (hb.mono BW.out.size))
  have R1 := Lib.hid (R1.out.keep hb)
  have R3 := Lib.hid (R3.out.keep hb)
  have R2 := HR
  clear hb
  go_wp2_with ((with_reducible refine copy_row (o := ⟨some 115, _, _, _, _, _⟩) ?_ (.tmp 113) (.tmp 114) 39 21 ?_ Try.underlying39 ?_ n c3 (some x3) .i32 (.int .i32 0) L ?_ ?_ R3.out ?_); (exact rfl); (exact rfl); (kernel_rfl); (exact rfl); (exact rfl))
  intro W3 hb HR
  have BW := Lib.hid (BW.out.trans (hb.mono BW.out.size))
  have R1 := Lib.hid (R1.out.keep hb)
  have R2 := Lib.hid (R2.out.keep hb)
  have R3 := HR
  clear hb
  go_wp2_with fail
  refine (new_any C (some ⟨w.heap.size, 0, none⟩) (some ⟨W1.heap.size, 0, none⟩) (some ⟨W2.heap.size, 0, none⟩) n n n n x S L K _ R1.out R2.out R3.out g1).mono ?_
  rintro e w5 ⟨b, g, rfl, hp⟩
  have HP := Lib.hid hp
  clear hp R1 R2 R3
  go_wp2_with fail
  refine (zcur_any _ b g n S L K C x _ _ HP.out).mono ?_
  rintro e w6 ⟨rfl, hb6⟩
  rw [HT.out]
  have HP6 := Lib.hid (HP.out.keep hb6)
  clear HP hb6
  go_wp2_with fail
  refine (zat_any _ b g n S L K C x _ _ HP6.out x x rfl).mono ?_
  rintro e w7 ⟨rfl, hb7⟩
  rw [HT.out]
  have HP7 := Lib.hid (HP6.out.keep hb7)
  clear HP6 hb7
  go_wp2_with fail
  refine (znext_any _ b g n S L K C x _ _ HP7.out g4).mono ?_
  rintro e w8 ⟨rfl, hb8⟩
  rw [HN.out]
  have HP8 := Lib.hid (HP7.out.keep hb8)
  clear HP7 hb8
  go_wp2_with fail
  refine (zat_any _ b g n S L K C x _ _ HP8.out y y rfl).mono ?_
  rintro e w9 ⟨rfl, hb9⟩
  rw [HYT.out]
  have HP9 := Lib.hid (HP8.out.keep hb9)
  clear HP8 hb9
  go_wp2_with fail
  refine (zcur_any _ b g n S L K C x _ _ HP9.out).mono ?_
  rintro e w10 ⟨rfl, hb10⟩
  rw [HT.out]
  have HP10 := Lib.hid (HP9.out.keep hb10)
  clear HP9 hb10
  go_wp2_with fail
  refine (zindex_any _ b g n S L K C x _ _ HP10.out).mono ?_
  rintro e w' ⟨rfl, rfl⟩
  go_wp2
  go_ret
  exact ⟨rfl, BW.out.trans (HP10.out.2.2.2.2.mono BW.out.size)⟩

set_option maxRecDepth 100000 in
set_option maxHeartbeats 4000000 in
/-- THE WALK -/
theorem walk (a0 : ByteArray) (a1 : Option Addr) (len1 cap1 : Nat) (z1 : List Int) (a2 : Option Addr) (len2 cap2 : Nat) (z2 : List Int) (a3 : Option Addr) (len3 cap3 : Nat) (z3 : List Int) (a4 : Int) (a5 : Int) (w : World) (w0 : a0.size ≤ maxLen) (w1 : IsRow (.int .u8) (fun n => (Lit.int .u8 n).wf = true) w a1 len1 cap1 z1) (w2 : IsRow (.int .i32) (fun n => (Lit.int .i32 n).wf = true) w a2 len2 cap2 z2) (w3 : IsRow (.int .i32) (fun n => (Lit.int .i32 n).wf = true) w a3 len3 cap3 z3) (w4 : (Lit.int .i64 a4).wf = true) (w5 : (Lit.int .i64 a5).wf = true) :
    Calls Try.prog 4 #[.string a0, .slice a1 len1 cap1, .slice a2 len2 cap2, .slice a3 len3 cap3, .int .i64 a4, .int .i64 a5] w fun e w' => e = .returned (.bool true) ∧ Below w.heap.size w w' := by
  have r1 := rowOf_of w1
  have r2 := rowOf_of w2
  have r3 := rowOf_of w3
  generalize (fun j => z1.getD j 0) = K at r1
  generalize (fun j => z2.getD j 0) = S at r2
  generalize (fun j => z3.getD j 0) = L at r3
  clear w0 w1 w2 w3 w4 w5
  by_cases p0 : (a0.size : Int) + len1 + len2 + len3 ≤ 1048576
  case neg =>
    go_enter Try.func4, Try.ntmps4
    go_wp2_with fail
    refine (zzb_no a0 a1 a2 a3 len1 len2 len3 cap1 cap2 cap3 a4 a5 (by omega) _).mono ?_
    rintro e w' ⟨rfl, rfl⟩
    go_wp2
    go_ret
    exact ⟨rfl, Below.refl _ _⟩
  have hy := zzb_yes a0 a1 a2 a3 len1 len2 len3 cap1 cap2 cap3 a4 a5 p0 w
  have HY := Lib.hid hy
  clear hy
  have g0 : (a0.size : Int) ≤ 1048576 := by omega
  have g1 : (len1 : Int) ≤ 1048576 := by omega
  have g2 : (len2 : Int) ≤ 1048576 := by omega
  have g3 : (len3 : Int) ≤ 1048576 := by omega
  clear p0
  by_cases p1 : (a0.size : Int) + len1 + 8 * len2 + 8 * len3 ≤ 1048576
  case neg =>
    go_enter Try.func4, Try.ntmps4
    go_wp2_with fail
    refine (HY.out).mono ?_
    rintro e w' ⟨rfl, rfl⟩
    clear HY
    go_wp2
    go_ret
    exact ⟨rfl, Below.refl _ _⟩
  by_cases p2 : (len2 : Int) = len1
  case neg =>
    go_enter Try.func4, Try.ntmps4
    go_wp2_with fail
    refine (HY.out).mono ?_
    rintro e w' ⟨rfl, rfl⟩
    clear HY
    go_wp2
    go_ret
    exact ⟨rfl, Below.refl _ _⟩
  obtain rfl : len2 = len1 := by omega
  clear p2
  by_cases p3 : (len3 : Int) = len2
  case neg =>
    go_enter Try.func4, Try.ntmps4
    go_wp2_with fail
    refine (HY.out).mono ?_
    rintro e w' ⟨rfl, rfl⟩
    clear HY
    go_wp2
    go_ret
    exact ⟨rfl, Below.refl _ _⟩
  obtain rfl : len3 = len2 := by omega
  clear p3
  by_cases p4 : 0 ≤ a4
  case neg =>
    go_enter Try.func4, Try.ntmps4
    go_wp2_with fail
    refine (HY.out).mono ?_
    rintro e w' ⟨rfl, rfl⟩
    clear HY
    go_wp2
    go_ret
    exact ⟨rfl, Below.refl _ _⟩
  by_cases p5 : a4 ≤ len3
  case neg =>
    go_enter Try.func4, Try.ntmps4
    go_wp2_with fail
    refine (HY.out).mono ?_
    rintro e w' ⟨rfl, rfl⟩
    clear HY
    go_wp2
    go_ret
    exact ⟨rfl, Below.refl _ _⟩
  by_cases p6 : 0 ≤ a5
  case neg =>
    go_enter Try.func4, Try.ntmps4
    go_wp2_with fail
    refine (HY.out).mono ?_
    rintro e w' ⟨rfl, rfl⟩
    clear HY
    go_wp2
    go_ret
    exact ⟨rfl, Below.refl _ _⟩
  obtain ⟨x, rfl⟩ := Int.eq_ofNat_of_zero_le p4
  obtain ⟨y, rfl⟩ := Int.eq_ofNat_of_zero_le p6
  cases a1 <;> cases a2 <;> cases a3
  · exact main53_nnn a0 len3 cap1 cap2 cap3 x y S L K w r1 r2 r3 p1 p5
  · exact main53_nns a0 _ len3 cap1 cap2 cap3 x y S L K w r1 r2 r3 p1 p5
  · exact main53_nsn a0 _ len3 cap1 cap2 cap3 x y S L K w r1 r2 r3 p1 p5
  · exact main53_nss a0 _ _ len3 cap1 cap2 cap3 x y S L K w r1 r2 r3 p1 p5
  · exact main53_snn a0 _ len3 cap1 cap2 cap3 x y S L K w r1 r2 r3 p1 p5
  · exact main53_sns a0 _ _ len3 cap1 cap2 cap3 x y S L K w r1 r2 r3 p1 p5
  · exact main53_ssn a0 _ _ len3 cap1 cap2 cap3 x y S L K w r1 r2 r3 p1 p5
  · exact main53_sss a0 _ _ _ len3 cap1 cap2 cap3 x y S L K w r1 r2 r3 p1 p5

set_option maxRecDepth 100000 in
theorem lifted (os : Os) (started : os.Started) (H : Type) (enc : TypeId × Value → H) :
    ReturnsInHanded {} Try.checked os 4 .any (Rows.fnCurrentAgreesWithAtAndIsStableSpec.pre6 enc Try.prog Try.f4 Rows.fnCurrentAgreesWithAtAndIsStableRow.domain false) (Rows.fnCurrentAgreesWithAtAndIsStableSpec.post enc Try.prog Try.f4 false true false false) := by
  refine returnsInHanded_of_change (C := Try.checked) own started (by kernel_rfl) Try.func4
    (ChangeSpec.witness6 (enc := enc) (C := Try.checked) false ⟨#[], #[.string ByteArray.empty, .slice none 0 0, .slice none 0 0, .slice none 0 0, .int .i64 0, .int .i64 0], []⟩ 8 (by kernel_rfl) (by kernel_rfl) (by kernel_rfl) (by kernel_rfl)) ?_
  intro W base args ds gs before hval0 hW hcnd _
  have hval : ∀ (j : Nat) t v, Try.f4.params[j]? = some t → args[j]? = some v → Value.okWide Try.prog W .any base t v := hval0
  have hW' := hW
  obtain ⟨p, q, hA0, hV, rfl, hfz, hnd⟩ := hW
  have hA : DataW.TrodAll enc Try.prog W 0 (fun _ => true) true Try.f4.params.toList args.toList ds p := hA0
  rw [Try.params4] at hA hval
  obtain ⟨v0, vs0, d0, ds0, p0, q0, hargs, rfl, rfl, h0, r0⟩ := trodAll_cons hA
  obtain ⟨v1, vs1, d1, ds1, p1, q1, rfl, rfl, rfl, h1, r1⟩ := trodAll_cons r0
  obtain ⟨v2, vs2, d2, ds2, p2, q2, rfl, rfl, rfl, h2, r2⟩ := trodAll_cons r1
  obtain ⟨v3, vs3, d3, ds3, p3, q3, rfl, rfl, rfl, h3, r3⟩ := trodAll_cons r2
  obtain ⟨v4, vs4, d4, ds4, p4, q4, rfl, rfl, rfl, h4, r4⟩ := trodAll_cons r3
  obtain ⟨v5, vs5, d5, ds5, p5, q5, rfl, rfl, rfl, h5, r5⟩ := trodAll_cons r4
  obtain ⟨rfl, rfl, rfl⟩ := trodAll_nil r5
  obtain rfl : args = #[v0, v1, v2, v3, v4, v5] := by cases args; simp_all
  obtain ⟨rfl, rfl⟩ := trodVars_none hV
  obtain ⟨a0, rfl, rfl, rfl, w0⟩ := open_string Try.underlying9 (hval 0 9 v0 rfl rfl) h0
  obtain ⟨a1, len1, cap1, rfl⟩ := okWide_slice Try.underlying22 (hval 1 22 v1 rfl rfl)
  have k1 := h1
  have lt1 : ∀ x ∈ p1, x.block < W.heap.size := by obtain ⟨m, hm⟩ := k1; exact DataW.trod_lt m _ _ _ hm
  obtain ⟨z1, w1⟩ : ∃ zs, IsRow (.int .u8) (fun n => (Lit.int .u8 n).wf = true) W a1 len1 cap1 zs := by
    obtain ⟨fuel, hf⟩ := h1
    exact row_of_int Try.underlying22 Try.underlying5 (by kernel_rfl) hf
  obtain ⟨a2, len2, cap2, rfl⟩ := okWide_slice Try.underlying39 (hval 2 39 v2 rfl rfl)
  have k2 := h2
  have lt2 : ∀ x ∈ p2, x.block < W.heap.size := by obtain ⟨m, hm⟩ := k2; exact DataW.trod_lt m _ _ _ hm
  obtain ⟨z2, w2⟩ : ∃ zs, IsRow (.int .i32) (fun n => (Lit.int .i32 n).wf = true) W a2 len2 cap2 zs := by
    obtain ⟨fuel, hf⟩ := h2
    exact row_of_int Try.underlying39 Try.underlying21 (by kernel_rfl) hf
  obtain ⟨a3, len3, cap3, rfl⟩ := okWide_slice Try.underlying39 (hval 3 39 v3 rfl rfl)
  have k3 := h3
  have lt3 : ∀ x ∈ p3, x.block < W.heap.size := by obtain ⟨m, hm⟩ := k3; exact DataW.trod_lt m _ _ _ hm
  obtain ⟨z3, w3⟩ : ∃ zs, IsRow (.int .i32) (fun n => (Lit.int .i32 n).wf = true) W a3 len3 cap3 zs := by
    obtain ⟨fuel, hf⟩ := h3
    exact row_of_int Try.underlying39 Try.underlying21 (by kernel_rfl) hf
  obtain ⟨a4, rfl, rfl, rfl, w4⟩ := open_int Try.underlying3 (hval 4 3 v4 rfl rfl) h4
  obtain ⟨a5, rfl, rfl, rfl, w5⟩ := open_int Try.underlying3 (hval 5 3 v5 rfl rfl) h5
  clear hA0 hval0
  refine (walk a0 a1 len1 cap1 z1 a2 len2 cap2 z2 a3 len3 cap3 z3 a4 a5 W w0 w1 w2 w3 w4 w5).mono fun e W' ⟨he, bel⟩ => ?_
  subst he
  exact ⟨_, rfl, _, _, _, [], _, [], hW', trodAll_mk1 (shut_bool Try.underlying4 _), (trodAll_cons_mk (shut_string Try.underlying9 w0) (trodAll_cons_mk (Below.trod laidOut (by kernel_rfl) (of_decide_eq_true (by kernel_rfl)) k1 bel lt1) (trodAll_cons_mk (Below.trod laidOut (by kernel_rfl) (of_decide_eq_true (by kernel_rfl)) k2 bel lt2) (trodAll_cons_mk (Below.trod laidOut (by kernel_rfl) (of_decide_eq_true (by kernel_rfl)) k3 bel lt3) (trodAll_cons_mk (shut_int Try.underlying3 w4) (trodAll_cons_mk (shut_int Try.underlying3 w5) trodAll_mk0)))))), rfl, bel.frame _, fun h => by cases h⟩

theorem over : Rows.fnCurrentAgreesWithAtAndIsStableRow.holds Try.pinned (OpenSpec.ofChange Rows.fnCurrentAgreesWithAtAndIsStableSpec) :=
  OpenClaim.holds_of_wide 4 Try.f4 rfl rfl rfl rfl rfl rfl rfl ⟨rfl, rfl, rfl, rfl, rfl⟩ rfl rfl rfl rfl rfl (by kernel_rfl) Try.func4 (by kernel_rfl)
    (of_decide_eq_true (by kernel_rfl)) (by unfold Func.isWrapper; first | (rw [if_pos (by decide +kernel)]; kernel_rfl) | (rw [if_neg (by decide +kernel)]; exact ⟨rfl, rfl⟩))
    (fun os started H enc _ => lifted os started H enc)

/-- THE STATEMENT -/
theorem proved : Rows.FnCurrentAgreesWithAtAndIsStableSaid := over
#print axioms proved
end Go.Proofs.Ytfbmomnfbkdbbab.fnCurrentAgreesWithAtAndIsStable
