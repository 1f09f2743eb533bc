/-
  Law 30 (FnParseComponentValueModel): for every list of codes and every index that holds a token, parseComponentValue moves the index to the place that the explicit stack of closers gives, where that stack is emptied before the stream ends. Conditions: none beyond the given statement's own (its listed variables, tied; fmt's texts told by the form's own function, which the law's way never asks).
-/
import Derived.Test.YtelpdhhcpdagbaaFmtRows
import Derived.Test.YtelpdhhcpdagbaaFmtTie
import Derived.Test.YtelpdhhcpdagbaaFmtCards
import Derived.WalkKit
import Derived.ProofKit
import Derived.OpenShut
import Derived.ShutString
import Derived.ChangeOld
import Derived.Below
import Derived.Lib.Hide
import Derived.Outline
import Derived.OpenVars
import Derived.Lay
import Derived.LaidMore
import Derived.SevenTiedAt
import Derived.Stop.Joined
import Derived.Stop.JoinedTold
import Derived.Stop.Told
import Derived.Deep.DeepWitnessRef
import Derived.Test.YtelpdhhcpdagbaaFmtCd
namespace Go.Proofs.YtelpdhhcpdagbaaFmt.fnParseComponentValueModel
open Go.ChangeShapes Go.WideShapes Go.ChangeAt Go.RowKit
open Go.ChangeMaps (open_string shut_string)
open Go.Extern.Stop Go.Stop Go.Extern
set_option linter.unusedVariables false

theorem own : ownKnob Tryf.prog.godebug = none := by kernel_rfl
theorem laidOut : laidOutB Tryf.prog = true := by kernel_rfl

/-- What the walk is told of a slice that came in: it is nil; or it leads to a row of 'cap' cells that hold 'zs'. -/
def IsRow {α : Type} [Inhabited α] (mk : α → Value) (ok : α → Prop) (w : World) (a : Option Addr) (len cap : Nat) (zs : List α) : Prop :=
  (a = none ∧ len = 0 ∧ cap = 0 ∧ zs = []) ∨
  ∃ x, a = some x ∧ len ≤ cap ∧ cap ≤ maxLen ∧ zs.length = cap ∧ (∀ i (h : i < zs.length), w.cell? (x.add i) = some (mk zs[i])) ∧ ∀ n ∈ zs, ok n
section
variable {H : Type} {enc : TypeId × Value → H} {P : Program} {w : World} {base : Nat} {hd : Bool}
theorem row_of_int {t e : TypeId} {k : IntKind} {fuel : Nat} {a : Option Addr} {len cap : Nat} {x : DataW H × List MemPlace} (ht : P.underlying t = some (.slice e)) (he : P.underlying e = some (.int k)) (hc : P.cellsOf e = 1)
    (hf : DataW.trod enc P w base (fun _ => true) hd fuel t (Value.slice a len cap).cells.toList = some x) : ∃ zs, IsRow (.int k) (fun n => (Lit.int k n).wf = true) w a len cap zs := by
  rcases open_ints ht he hc hf with ⟨hcs, _⟩ | ⟨y, l, c, zs, hcs, _, hl, hm, hz, _, hcell, hwz⟩
  · simp [Value.cells] at hcs
    obtain ⟨rfl, rfl, rfl⟩ := hcs
    exact ⟨[], .inl ⟨rfl, rfl, rfl, rfl⟩⟩
  · simp [Value.cells] at hcs
    obtain ⟨rfl, rfl, rfl⟩ := hcs
    exact ⟨zs, .inr ⟨_, rfl, hl, hm, by simpa using hz, fun i h => by have := hcell i h; simpa [List.getD, h] using this, hwz⟩⟩
end

open Av Rg
def ZB (Q : Prop) (w : World) (e : Ending) (w' : World) : Prop := (∃ r : Bool, e = .returned (.bool r) ∧ (r = true → Q)) ∧ w = w'
set_option maxRecDepth 100000 in
set_option maxHeartbeats 2000000 in
theorem zzb30 (a : Option Addr) (n c : Nat) (x : Int) (w : World) (hn : (n : Int) ≤ 9223372036854775807) :
    Calls Tryf.prog 4 #[.slice a n c, .int .i64 x] w (ZB (((0 : Nat) : Int) ≤ 1048576) w) := by
  go_enter Tryf.func4, Tryf.ntmps4
  by_cases g1 : (1048576 : Int) < (n : Int)
  · go_wp2_with fail
    go_ret
    exact ⟨⟨false, rfl, fun _ => by decide⟩, rfl⟩
  go_wp2_with fail
  go_ret
  exact ⟨⟨true, rfl, fun _ => by decide⟩, rfl⟩

set_option maxRecDepth 100000 in
set_option maxHeartbeats 4000000 in
/-- THE WALK -/
theorem walk (a0 : Option Addr) (len0 cap0 : Nat) (z0 : List Int) (a1 : Int) (w : World) (w0 : IsRow (.int .u8) (fun n => (Lit.int .u8 n).wf = true) w a0 len0 cap0 z0) (w1 : (Lit.int .i64 a1).wf = true) :
    Calls Tryf.prog 3 #[.slice a0 len0 cap0, .int .i64 a1] w fun e w' => e = .returned (.bool true) ∧ Below w.heap.size w w' := by
  unfold IsRow at w0
  obtain ⟨hS, hok0, hz0, hm0⟩ := Sl.of_row w0
  obtain ⟨Z, hZ⟩ : ∃ Z : Nat → Int, Z = fun i => z0.getD i default := ⟨_, rfl⟩
  have HS := Lib.hid (show Sl w a0 len0 (fun i => .int .u8 (Z i)) by rw [hZ]; exact hS)
  have HZ := Lib.hid (show ∀ j, j < len0 → 0 ≤ Z j ∧ Z j ≤ 255 from fun j hj => by have := hok0 j hj; rw [hZ]; simpa [Lit.wf, IntKind.min, IntKind.max, IntKind.bits, IntKind.signed] using this)
  have hl0 : (len0 : Int) ≤ 9223372036854775807 := by unfold maxLen at hm0; omega
  clear w0 hS hok0 hm0 hZ
  by_cases hb0 : (65536 : Int) < len0
  · go_enter Tryf.func3, Tryf.ntmps3
    go_wp2_with fail
    refine (zzb30 a0 len0 cap0 a1 w hl0).mono ?_
    rintro e wz ⟨⟨r, rfl, -⟩, rfl⟩
    cases r
    all_goals (go_wp2_with fail; go_ret; exact ⟨rfl, Below.refl _ _⟩)
  by_cases hb2 : a1 < 0
  · go_enter Tryf.func3, Tryf.ntmps3
    go_wp2_with fail
    refine (zzb30 a0 len0 cap0 a1 w hl0).mono ?_
    rintro e wz ⟨⟨r, rfl, -⟩, rfl⟩
    cases r
    all_goals (go_wp2_with fail; go_ret; exact ⟨rfl, Below.refl _ _⟩)
  by_cases hb3 : (len0 : Int) ≤ a1
  · go_enter Tryf.func3, Tryf.ntmps3
    go_wp2_with fail
    refine (zzb30 a0 len0 cap0 a1 w hl0).mono ?_
    rintro e wz ⟨⟨r, rfl, -⟩, rfl⟩
    cases r
    all_goals (go_wp2_with fail; go_ret; exact ⟨rfl, Below.refl _ _⟩)
  obtain ⟨i, rfl⟩ : ∃ i : Nat, a1 = i := ⟨a1.toNat, by omega⟩
  have hn0 : (len0 : Int) ≤ 65536 := by omega
  have hi : i < len0 := by omega
  have hi2 : (i : Int) < len0 := by omega
  have hi0 : (0 : Int) ≤ i := by omega
  clear hb0 hb2 hb3 w1
  go_enter Tryf.func3, Tryf.ntmps3
  go_wp2_with fail
  refine (zzb30 a0 len0 cap0 i w hl0).mono ?_
  rintro e wz ⟨⟨r, rfl, -⟩, rfl⟩
  clear hl0
  cases r
  · go_wp2_with fail
    go_ret
    exact ⟨rfl, Below.refl _ _⟩
  go_wp2_with fail
  refine (clone8 a0 len0 cap0 Z w HS.out hz0 (by omega)).mono ?_
  rintro e w1 ⟨an, cn, rfl, hS1, -, -, hb1⟩
  have HS1 := Lib.hid hS1
  have HB1 := Lib.hid hb1
  clear hS1 hb1 HS hz0
  go_wp2_with fail
  refine (comp_any an len0 cn Z HZ.out hn0 i hi w1 HS1.out).mono ?_
  rintro e w2 ⟨r, ok, rfl, hb2, h1, h2⟩
  have HS2 := Lib.hid (HS1.out.keep hb2)
  have HB2 := Lib.hid (HB1.out.trans (hb2.mono HB1.out.size))
  have H1 := Lib.hid h1
  have H2 := Lib.hid h2
  clear hb2 h1 h2 HS1 HB1
  cases ok
  · go_wp2_with fail
    go_ret
    exact ⟨rfl, HB2.out⟩
  go_wp2_with fail
  refine (build_any an len0 cn Z HZ.out hn0 w2 HS2.out).mono ?_
  rintro e w3 ⟨C, g, S, L, rfl, hT⟩
  have HT := Lib.hid hT
  have HB3 := Lib.hid (HB2.out.trans (hT.2.2.2.2.2.mono HB2.out.size))
  clear hT HS2 HB2
  go_wp2_with fail
  refine (zpc_any C w2.heap.size g len0 S L (fun j => Z j % 15) (by omega) (fun j hj => by have := HZ.out j hj; show 0 ≤ Z j % 15 ∧ Z j % 15 ≤ 14; omega) i hi w2 w3 HT.out (fun h0 => ⟨r, (H1.out h0 (by first | rfl | trivial)).1⟩)).mono ?_
  rintro e w4 ⟨r', rfl, hb4, h3, h4⟩
  have HB4 := Lib.hid (HB3.out.trans (hb4.mono HB3.out.size))
  have hr : r' = r := by
    by_cases h0 : 0 ≤ cl ((fun j => Z j % 15) i)
    · have e1 := h3 h0
      rw [(H1.out h0 (by first | rfl | trivial)).1] at e1
      injection e1 with e1
      exact e1.symm
    · rw [h4 h0, H2.out (by have h : ¬ 0 ≤ cl (Z i % 15) := h0; omega)]
  subst hr
  clear hb4 h3 h4 H1 H2 HB3 HT
  go_wp2_with fail
  go_ret
  exact ⟨by simp, HB4.out⟩

theorem laid_met (os : Os) (args : Array Value) : laidMetH Tryf.prog Rows.fnParseComponentValueModelRow.laid ((World.laidAll Tryf.prog os Rows.fnParseComponentValueModelRow.laid).forCall (fun _ _ => 0) ⟨#[], args, []⟩).memory := by
  rw [MakeChecks.laidMetH_plain _ _ _ (by kernel_rfl)]; exact laidMet_laidAll _ (by kernel_rfl) (by kernel_rfl)

set_option maxRecDepth 1000000 in
theorem witness (os : Os) (H : Type) (enc : TypeId × Value → H) (F : Stop.Interp) :
    ∃ (w : World) (tape : Tape) (i : Input), w.os = os ∧ (w.forCall tape i).Shaped Tryf.checked.prog ∧ i.vars = [] ∧ Input.okWide Tryf.checked.prog (w.forCall tape i) .any w.heap.size 3 i ∧
      (OpenSpec.ofChange Rows.fnParseComponentValueModelSpec).preRow enc Tryf.checked.prog Tryf.f3 Rows.fnParseComponentValueModelRow.domain false Rows.fnParseComponentValueModelRow.laid (w.forCall tape i).memory i.args ∧ ({ modest := false } : Assume).holds Tryf.checked.prog (lone (Frame.enter Tryf.checked.prog 3 i.args .normal) [] (w.forCall tape i)) ∧ F.answers tape := by
  have hok : Input.okWideB Tryf.checked.prog ((World.laidAll Tryf.prog os Rows.fnParseComponentValueModelRow.laid).forCall (fun _ _ => 0) ⟨#[], #[.slice none 0 0, .int .i64 0], []⟩) 3 ⟨#[], #[.slice none 0 0, .int .i64 0], []⟩ = true := by kernel_rfl
  exact ⟨World.laidAll Tryf.prog os Rows.fnParseComponentValueModelRow.laid, F.over fun _ _ => 0, ⟨#[], #[.slice none 0 0, .int .i64 0], []⟩, World.laidAll_os _ _ _,
    World.shaped_of_ZipB (by kernel_rfl) (by kernel_rfl), (Input.okWide_of_okWideB (base := 0) hok).1, (Input.okWide_of_okWideB hok).2,
    OpenSpec.preRow_of_B rfl 8 (by kernel_rfl) (by kernel_rfl) (laid_met os _), by
    simp only [Assume.holds]
    exact ⟨by simp, by simp, fun _ => F.over_modest Modest.zero, by simp, by simp⟩, F.over_answers _⟩

set_option maxRecDepth 100000 in
theorem lifted (os : Os) (started : os.Started) (H : Type) (enc : TypeId × Value → H) :
    ReturnsInTold none {} Tryf.checked os 3 .any Input.okWide ((OpenSpec.ofChange Rows.fnParseComponentValueModelSpec).preRow enc Tryf.prog Tryf.f3 Rows.fnParseComponentValueModelRow.domain false Rows.fnParseComponentValueModelRow.laid)
      (fun F => ((OpenSpec.ofChange Rows.fnParseComponentValueModelSpec).at F).post enc Tryf.prog Tryf.f3 false true false false) (aloneAtReturn Tryf.prog) nothingAlways := by
  refine returnsInTold_of_row (C := Tryf.checked) (s := OpenSpec.ofChange Rows.fnParseComponentValueModelSpec) (by kernel_rfl) own started (by kernel_rfl) Tryf.func3 (witness os H enc) ?_
  intro F W base args ds gs before _ hF hval0 hW hcnd _ _ hL _
  have hval : ∀ (j : Nat) t v, Tryf.f3.params[j]? = some t → args[j]? = some v → Value.okWide Tryf.prog W .any base t v := hval0
  have hW' := hW
  obtain ⟨p, q, hA0, hV, rfl, hfz, hnd⟩ := hW
  have hA : DataW.TrodAll enc Tryf.prog W 0 (fun _ => true) true Tryf.f3.params.toList args.toList ds p := hA0
  rw [Tryf.params3] at hA hval
  obtain ⟨v0, vs0, d0, ds0, p0, q0, hargs, rfl, rfl, h0, r0⟩ := trodAll_cons hA
  obtain ⟨v1, vs1, d1, ds1, p1, q1, rfl, rfl, rfl, h1, r1⟩ := trodAll_cons r0
  obtain ⟨rfl, rfl, rfl⟩ := trodAll_nil r1
  obtain rfl : args = #[v0, v1] := by cases args; simp_all
  have hV1 := hV
  obtain ⟨g0, hg0⟩ : ∃ g, gs = [g] := by
    match gs, hV with
    | [g], _ => exact ⟨g, rfl⟩
  subst hg0
  obtain ⟨a0, len0, cap0, rfl⟩ := okWide_slice Tryf.underlying22 (hval 0 22 v0 rfl rfl)
  have k0 := h0
  have lt0 : ∀ x ∈ p0, x.block < W.heap.size := by obtain ⟨m, hm⟩ := k0; exact DataW.trod_lt m _ _ _ hm
  obtain ⟨z0, w0⟩ : ∃ zs, IsRow (.int .u8) (fun n => (Lit.int .u8 n).wf = true) W a0 len0 cap0 zs := by
    obtain ⟨fuel, hf⟩ := h0
    exact row_of_int Tryf.underlying22 Tryf.underlying5 (by kernel_rfl) hf
  obtain ⟨a1, rfl, rfl, rfl, w1⟩ := open_int Tryf.underlying3 (hval 1 3 v1 rfl rfl) h1
  clear hA0 hval0
  refine (walk a0 len0 cap0 z0 a1 W w0 w1).mono fun e W' ⟨he, bel⟩ => ?_
  subst he
  exact ⟨_, rfl, _, _, _, [], _, _, hW', trodAll_mk1 (shut_bool Tryf.underlying4 _), (trodAll_cons_mk (Below.trod laidOut (by kernel_rfl) (of_decide_eq_true (by kernel_rfl)) k0 bel lt0) (trodAll_cons_mk (shut_int Tryf.underlying3 w1) trodAll_mk0)), (Below.trodVars laidOut bel (by kernel_rfl) hV1), bel.frame _, fun h => by cases h⟩

theorem stops0 : Tryf.pinned.checked.prog.stops = "fmt.Sprintf" :: [] := by kernel_rfl
theorem stopKnobs : Tryf.pinned.checked.prog.stopKnobs = [] := by kernel_rfl
theorem quiet (os : Os) : Stop.quiet Tryf.pinned.checked.prog os := by
  intro k hk
  rw [stopKnobs] at hk
  cases hk

/-- THE STATEMENT: fmt's texts are told by the form's own Lean function (the law's own way never comes to fmt); the listed variables are tied to the program's text. -/
theorem proved : Rows.FnParseComponentValueModelToldSaid :=
  Claim7.holds_of_told_tied_any_at .later 3 Tryf.f3 "fmt.Sprintf" [] [] _ _ _ _ _ (by kernel_rfl) rfl rfl rfl laidOut (by kernel_rfl) rfl ⟨rfl, rfl, rfl, rfl, rfl, rfl, rfl⟩ rfl rfl (by kernel_rfl) (by kernel_rfl) Tryf.func3 (by kernel_rfl)
    (of_decide_eq_true (by kernel_rfl)) (by unfold Func.isWrapper; first | (rw [if_pos (by decide +kernel)]; kernel_rfl) | (rw [if_neg (by decide +kernel)]; exact ⟨rfl, rfl⟩)) stops0.symm rfl stopKnobs.symm (by kernel_rfl)
    (by kernel_rfl) (by kernel_rfl) (by kernel_rfl) (by kernel_rfl) (by kernel_rfl) (by kernel_rfl) (by kernel_rfl) (by kernel_rfl) (by kernel_rfl) rfl (by kernel_rfl) rfl rfl
    rfl rfl
    rfl (by kernel_rfl) (by kernel_rfl) (by kernel_rfl) (by decide) (by kernel_rfl) fnParseComponentValueModel_row_tie
    (OpenClaim.moreEntering_of (by kernel_rfl) (by kernel_rfl) (by kernel_rfl) (by kernel_rfl) (by kernel_rfl) (by kernel_rfl) (by kernel_rfl) (by kernel_rfl) (by kernel_rfl) (by kernel_rfl))
    ⟨_, WideRow.started_initial, quiet _⟩
    (fun os started _ H enc _ => lifted os started H enc)
#print axioms proved
end Go.Proofs.YtelpdhhcpdagbaaFmt.fnParseComponentValueModel
