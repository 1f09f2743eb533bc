/-
  For every byte string, the selector list that is read from it counts as many simple selectors at all depths as the string has opening bytes. Conditions: none beyond the given statement's own.
-/
import Derived.Test.YtgdodkfbobhfoaaRows
import Derived.WalkKit
import Derived.ProofKit
import Derived.OpenShut
import Derived.ShutString
import Derived.ChangeOld
import Derived.Below
import Derived.Lib.Hide
import Derived.Outline
import Derived.Test.YtgdodkfbobhfoaaTl
namespace Go.Proofs.Ytgdodkfbobhfoaa.fnComplexTermCountIsSubclassTokenCount
open Go.ChangeShapes Go.WideShapes Go.ChangeAt Go.RowKit
open Go.ChangeMaps (open_string shut_string)
set_option linter.unusedVariables false

theorem own : ownKnob Try.prog.godebug = none := by kernel_rfl
theorem laidOut : laidOutB Try.prog = true := by kernel_rfl

/-- What the walk is told of a slice that came in: it is nil; or it leads to a row of 'cap' cells that hold 'zs'. -/
def IsRow {α : Type} [Inhabited α] (mk : α → Value) (ok : α → Prop) (w : World) (a : Option Addr) (len cap : Nat) (zs : List α) : Prop :=
  (a = none ∧ len = 0 ∧ cap = 0 ∧ zs = []) ∨
  ∃ x, a = some x ∧ len ≤ cap ∧ cap ≤ maxLen ∧ zs.length = cap ∧ (∀ i (h : i < zs.length), w.cell? (x.add i) = some (mk zs[i])) ∧ ∀ n ∈ zs, ok n
section
variable {H : Type} {enc : TypeId × Value → H} {P : Program} {w : World} {base : Nat} {hd : Bool}
theorem row_of_int {t e : TypeId} {k : IntKind} {fuel : Nat} {a : Option Addr} {len cap : Nat} {x : DataW H × List MemPlace} (ht : P.underlying t = some (.slice e)) (he : P.underlying e = some (.int k)) (hc : P.cellsOf e = 1)
    (hf : DataW.trod enc P w base (fun _ => true) hd fuel t (Value.slice a len cap).cells.toList = some x) : ∃ zs, IsRow (.int k) (fun n => (Lit.int k n).wf = true) w a len cap zs := by
  rcases open_ints ht he hc hf with ⟨hcs, _⟩ | ⟨y, l, c, zs, hcs, _, hl, hm, hz, _, hcell, hwz⟩
  · simp [Value.cells] at hcs
    obtain ⟨rfl, rfl, rfl⟩ := hcs
    exact ⟨[], .inl ⟨rfl, rfl, rfl, rfl⟩⟩
  · simp [Value.cells] at hcs
    obtain ⟨rfl, rfl, rfl⟩ := hcs
    exact ⟨zs, .inr ⟨_, rfl, hl, hm, by simpa using hz, fun i h => by have := hcell i h; simpa [List.getD, h] using this, hwz⟩⟩
end

open Tr Rg

set_option maxRecDepth 100000 in
set_option maxHeartbeats 4000000 in
/-- THE WALK -/
theorem walk (a0 : Option Addr) (len0 cap0 : Nat) (z0 : List Int) (w : World) (w0 : IsRow (.int .u8) (fun n => (Lit.int .u8 n).wf = true) w a0 len0 cap0 z0) :
    Calls Try.prog 3 #[.slice a0 len0 cap0] w fun e w' => e = .returned (.bool true) ∧ Below w.heap.size w w' := by
  unfold IsRow at w0
  obtain ⟨hS, hok, hz0, hm0⟩ := Sl.of_row w0
  obtain ⟨Z, hZ⟩ : ∃ Z : Nat → Int, Z = fun i => z0.getD i default := ⟨_, rfl⟩
  have HS := Lib.hid (show Sl w a0 len0 (fun i => .int .u8 (Z i)) by rw [hZ]; exact hS)
  have HZ := Lib.hid (show ∀ j, j < len0 → 0 ≤ Z j ∧ Z j ≤ 255 from fun j hj => by have := hok j hj; rw [hZ]; simpa [Lit.wf, IntKind.min, IntKind.max, IntKind.bits, IntKind.signed] using this)
  have hl : (len0 : Int) ≤ 9223372036854775807 := by unfold maxLen at hm0; omega
  clear w0 hS hok hm0 hZ
  by_cases hn : (65536 : Int) < len0
  · go_enter Try.func3, Try.ntmps3
    go_wp2_with fail
    refine (bytes19 a0 len0 cap0 w hl).mono ?_
    rintro e w1 ⟨rfl, rfl⟩
    generalize decide ((len0 : Int) ≤ 1048576) = r
    cases r
    all_goals (go_wp2_with fail; go_ret; exact ⟨rfl, Below.refl _ _⟩)
  have hn2 : (len0 : Int) ≤ 65536 := by omega
  clear hn hl
  go_enter Try.func3, Try.ntmps3
  go_wp2_with fail
  refine (bytes19 a0 len0 cap0 w (by omega)).mono ?_
  rintro e w1 ⟨rfl, rfl⟩
  rw [show decide ((len0 : Int) ≤ 1048576) = true by simp; omega]
  go_wp2_with fail
  refine (cloneu_any a0 len0 cap0 Z w HS.out hz0 hn2).mono ?_
  rintro e w1 ⟨an, cn, rfl, hS1, hB1, -, hb1⟩
  have HS1 := Lib.hid hS1
  have HB := Lib.hid hb1
  have HL := Lib.hid (show ∀ x, an = some x → len0 = 0 ∨ x.block < w1.heap.size from fun x hx => by
    by_cases h0 : len0 = 0
    · exact .inl h0
    · obtain ⟨ab, ao, e, c⟩ := hS1 0 (by omega)
      rw [hx] at e
      injection e with e
      subst e
      exact .inr (World.block_lt_of_cell? w1 _ c))
  clear hS1 hB1 hb1 HS hz0
  have HS2 := Lib.hid (HS1.out.keep ((Below.refl _ _).alloc (Nat.le_refl _) (.cells #[.slice an len0 cn, .int .i64 0] 29)))
  have HC := Lib.hid (show Bk (w1.alloc (.cells #[.slice an len0 cn, .int .i64 0] 29)) w1.heap.size 29 #[.slice an len0 cn, .int .i64 ((0 : Nat) : Int)] from heap_alloc_new w1 _)
  have HB1 := Lib.hid (HB.out.alloc HB.out.size (.cells #[.slice an len0 cn, .int .i64 0] 29))
  have HSZ := Lib.hid HB.out.size
  have hp : 0 < len0 → ∀ x, an = some x → x.block ≠ w1.heap.size := fun h0 x hx => by rcases HL.out x hx with h | h <;> omega
  have HP := Lib.hid hp
  clear hp HS1 HB HL
  go_wp2_with fail
  generalize (World.alloc _ _ : World) = wA at *
  refine (show Calls Try.prog 6 #[.pointer (some ⟨w1.heap.size, 0, none⟩), .int .i64 0] wA (Prs (.slice an len0 cn) Z w1.heap.size len0 0 0 wA) from parse_any an len0 cn Z w1.heap.size hn2 HZ.out HP.out len0 0 0 wA (by omega) (Nat.zero_le _) (Nat.le_refl _) HS2.out HC.out).mono ?_
  rintro e w2 ⟨v, c, k2, X, rfl, -, h2, hbk, ht, hX, hg, hcc, he⟩
  obtain rfl : k2 = len0 := he rfl
  obtain rfl : c = cntF Z k2 := by simpa [cntF] using hcc
  obtain ⟨av, nv, cv, rfl⟩ := ht.form
  have HT := Lib.hid (And.intro ht hX)
  have HS3 := Lib.hid (sl_grown HS2.out HP.out hg)
  have HB2 := Lib.hid (HB1.out.grown hg HB1.out.size (fun q hq => by injection hq with hq; have := HSZ.out; omega))
  have HCB := Lib.hid (cntF_le Z k2)
  clear hbk ht hX hg hcc he HS2 HC HB1 HP h2
  go_wp2_with fail
  refine (zcount_any HT.out.1 (fun g hx => (HT.out.2 g hx).2) (by have := HCB.out; omega)).mono ?_
  rintro e w3 ⟨rfl, hb⟩
  have HS4 := Lib.hid (HS3.out.keep hb)
  have HB3 := Lib.hid (HB2.out.trans (hb.mono HB2.out.size))
  clear hb HS3 HB2 HT
  go_wp2_with fail
  refine (count_any an k2 cn Z w3 hn2 HZ.out HS4.out).mono ?_
  rintro e w4 ⟨rfl, rfl⟩
  generalize cntF Z k2 = cc at *
  go_wp2_with fail
  go_ret
  exact ⟨by simp, HB3.out⟩

set_option maxRecDepth 100000 in
theorem lifted (os : Os) (started : os.Started) (H : Type) (enc : TypeId × Value → H) :
    ReturnsInHanded {} Try.checked os 3 .any (Rows.fnComplexTermCountIsSubclassTokenCountSpec.pre6 enc Try.prog Try.f3 Rows.fnComplexTermCountIsSubclassTokenCountRow.domain false) (Rows.fnComplexTermCountIsSubclassTokenCountSpec.post enc Try.prog Try.f3 false true false false) := by
  refine returnsInHanded_of_change (C := Try.checked) own started (by kernel_rfl) Try.func3
    (ChangeSpec.witness6 (enc := enc) (C := Try.checked) false ⟨#[], #[.slice none 0 0], []⟩ 8 (by kernel_rfl) (by kernel_rfl) (by kernel_rfl) (by kernel_rfl)) ?_
  intro W base args ds gs before hval0 hW hcnd _
  have hval : ∀ (j : Nat) t v, Try.f3.params[j]? = some t → args[j]? = some v → Value.okWide Try.prog W .any base t v := hval0
  have hW' := hW
  obtain ⟨p, q, hA0, hV, rfl, hfz, hnd⟩ := hW
  have hA : DataW.TrodAll enc Try.prog W 0 (fun _ => true) true Try.f3.params.toList args.toList ds p := hA0
  rw [Try.params3] at hA hval
  obtain ⟨v0, vs0, d0, ds0, p0, q0, hargs, rfl, rfl, h0, r0⟩ := trodAll_cons hA
  obtain ⟨rfl, rfl, rfl⟩ := trodAll_nil r0
  obtain rfl : args = #[v0] := by cases args; simp_all
  obtain ⟨rfl, rfl⟩ := trodVars_none hV
  obtain ⟨a0, len0, cap0, rfl⟩ := okWide_slice Try.underlying22 (hval 0 22 v0 rfl rfl)
  have k0 := h0
  have lt0 : ∀ x ∈ p0, x.block < W.heap.size := by obtain ⟨m, hm⟩ := k0; exact DataW.trod_lt m _ _ _ hm
  obtain ⟨z0, w0⟩ : ∃ zs, IsRow (.int .u8) (fun n => (Lit.int .u8 n).wf = true) W a0 len0 cap0 zs := by
    obtain ⟨fuel, hf⟩ := h0
    exact row_of_int Try.underlying22 Try.underlying5 (by kernel_rfl) hf
  clear hA0 hval0
  refine (walk a0 len0 cap0 z0 W w0).mono fun e W' ⟨he, bel⟩ => ?_
  subst he
  exact ⟨_, rfl, _, _, _, [], _, [], hW', trodAll_mk1 (shut_bool Try.underlying4 _), (trodAll_cons_mk (Below.trod laidOut (by kernel_rfl) (of_decide_eq_true (by kernel_rfl)) k0 bel lt0) trodAll_mk0), rfl, bel.frame _, fun h => by cases h⟩

theorem over : Rows.fnComplexTermCountIsSubclassTokenCountRow.holds Try.pinned (OpenSpec.ofChange Rows.fnComplexTermCountIsSubclassTokenCountSpec) :=
  OpenClaim.holds_of_wide 3 Try.f3 rfl rfl rfl rfl rfl rfl rfl ⟨rfl, rfl, rfl, rfl, rfl⟩ rfl rfl rfl rfl rfl (by kernel_rfl) Try.func3 (by kernel_rfl)
    (of_decide_eq_true (by kernel_rfl)) (by unfold Func.isWrapper; first | (rw [if_pos (by decide +kernel)]; kernel_rfl) | (rw [if_neg (by decide +kernel)]; exact ⟨rfl, rfl⟩))
    (fun os started H enc _ => lifted os started H enc)

/-- THE STATEMENT -/
theorem proved : Rows.FnComplexTermCountIsSubclassTokenCountSaid := over
#print axioms proved
end Go.Proofs.Ytgdodkfbobhfoaa.fnComplexTermCountIsSubclassTokenCount
