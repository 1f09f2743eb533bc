/-
  For every compound with one '&', every parent of two or more compounds without '&', every list of results and either choice of strip: the parent is spliced in or wrapped in ':is', as the table says: the Go law FnSubstituteMultiCompoundParentTable returns true for every input. The texts that fmt prints are told by the form's own Lean function (the law's own way never comes to fmt); the tables that the package reads are tied to the text of the program. No condition.
-/
import Derived.Test.YtaiofdgiabmelaaFmtRows
import Derived.Test.YtaiofdgiabmelaaFmtTie
import Derived.Test.YtaiofdgiabmelaaFmtCards
import Derived.WalkKit
import Derived.ProofKit
import Derived.OpenShut
import Derived.ShutString
import Derived.ChangeOld
import Derived.Below
import Derived.Lib.Hide
import Derived.Outline
import Derived.OpenVars
import Derived.Lay
import Derived.LaidMore
import Derived.SevenTiedAt
import Derived.Stop.Joined
import Derived.Stop.JoinedTold
import Derived.Stop.Told
import Derived.Deep.DeepWitnessRef
import Derived.Test.YtaiofdgiabmelaaFmtUx
import Derived.Test.YtaiofdgiabmelaaFmtUv
namespace Go.Proofs.YtaiofdgiabmelaaFmt.fnSubstituteMultiCompoundParentTable
open Go.ChangeShapes Go.WideShapes Go.ChangeAt Go.RowKit
open Go.ChangeMaps (open_string shut_string)
open Go.Extern.Stop Go.Stop Go.Extern
set_option linter.unusedVariables false

theorem own : ownKnob Tryf.prog.godebug = none := by kernel_rfl
theorem laidOut : laidOutB Tryf.prog = true := by kernel_rfl

section
variable {H : Type} {enc : TypeId × Value → H} {w : World} {base : Nat} {spare : Nat → Bool} {hd : Bool}
set_option maxRecDepth 100000 in
theorem open_cms2 {r : Reach} {b0 : Nat} {v : Value} {d : DataW H} {p : List MemPlace} (hv : Value.okWide Tryf.prog w r b0 25 v) (h : DataW.Trod enc Tryf.prog w base spare hd 25 v d p) : ∃ (u : Value) (L : List Sb.Cm), u = v ∧ Sb.CmV (Sb.Old w) w u L ∧ ∀ c ∈ L, c.am ≤ 255 := by
  obtain ⟨L, h⟩ := Sb.open_cms hv h
  exact ⟨v, L, rfl, h⟩
end

set_option maxRecDepth 100000 in
set_option maxHeartbeats 4000000 in
/-- THE WALK -/
theorem walk (cb0 : Int) (am0 : Nat) (u0 : Value) (N0 : List ByteArray) (u1 : Value) (L1 : List Sb.Cm) (u2 : Value) (L2 : List Sb.Cm) (a3 : Bool) (w : World) (w0 : am0 ≤ 255 ∧ Sb.NmV (Sb.Old w) w u0 N0) (w1 : Sb.CmV (Sb.Old w) w u1 L1 ∧ ∀ c ∈ L1, c.am ≤ 255) (w2 : Sb.CmV (Sb.Old w) w u2 L2 ∧ ∀ c ∈ L2, c.am ≤ 255) :
    Calls Tryf.prog 3 #[.agg #[.int .u8 cb0, .int .u8 (am0 : Nat), u0], .agg #[u1], u2, .bool a3] w fun e w' => e = .returned (.bool true) ∧ Below w.heap.size w w' := by
  exact Sb.law59 cb0 am0 u0 u1 u2 a3 N0 L1 L2 w w0.1 w1.2 w2.2 w0.2 w1.1 w2.1

theorem laid_met (os : Os) (args : Array Value) : laidMetH Tryf.prog Rows.fnSubstituteMultiCompoundParentTableRow.laid ((World.laidAll Tryf.prog os Rows.fnSubstituteMultiCompoundParentTableRow.laid).forCall (fun _ _ => 0) ⟨#[], args, []⟩).memory := by
  rw [MakeChecks.laidMetH_plain _ _ _ (by kernel_rfl)]; exact laidMet_laidAll _ (by kernel_rfl) (by kernel_rfl)

set_option maxRecDepth 1000000 in
theorem witness (os : Os) (H : Type) (enc : TypeId × Value → H) (F : Stop.Interp) :
    ∃ (w : World) (tape : Tape) (i : Input), w.os = os ∧ (w.forCall tape i).Shaped Tryf.checked.prog ∧ i.vars = [] ∧ Input.okWide Tryf.checked.prog (w.forCall tape i) .any w.heap.size 3 i ∧
      (OpenSpec.ofChange Rows.fnSubstituteMultiCompoundParentTableSpec).preRow enc Tryf.checked.prog Tryf.f3 Rows.fnSubstituteMultiCompoundParentTableRow.domain false Rows.fnSubstituteMultiCompoundParentTableRow.laid (w.forCall tape i).memory i.args ∧ ({ modest := false } : Assume).holds Tryf.checked.prog (lone (Frame.enter Tryf.checked.prog 3 i.args .normal) [] (w.forCall tape i)) ∧ F.answers tape := by
  have hok : Input.okWideB Tryf.checked.prog ((World.laidAll Tryf.prog os Rows.fnSubstituteMultiCompoundParentTableRow.laid).forCall (F.over fun _ _ => 0) ⟨#[], #[.agg #[.int .u8 0, .int .u8 0, .slice none 0 0], .agg #[.slice none 0 0], .slice none 0 0, .bool false], []⟩) 3 ⟨#[], #[.agg #[.int .u8 0, .int .u8 0, .slice none 0 0], .agg #[.slice none 0 0], .slice none 0 0, .bool false], []⟩ = true := by kernel_rfl
  exact ⟨World.laidAll Tryf.prog os Rows.fnSubstituteMultiCompoundParentTableRow.laid, F.over fun _ _ => 0, ⟨#[], #[.agg #[.int .u8 0, .int .u8 0, .slice none 0 0], .agg #[.slice none 0 0], .slice none 0 0, .bool false], []⟩, World.laidAll_os _ _ _,
    World.shaped_of_ZipB (by kernel_rfl) (by kernel_rfl), (Input.okWide_of_okWideB (base := 0) hok).1, (Input.okWide_of_okWideB hok).2,
    OpenSpec.preRow_of_B rfl 8 (by kernel_rfl) (by kernel_rfl) (laid_met os _), by
    simp only [Assume.holds]
    exact ⟨by simp, by simp, fun _ => F.over_modest Modest.zero, by simp, by simp⟩, F.over_answers _⟩

set_option maxRecDepth 100000 in
theorem lifted (os : Os) (started : os.Started) (H : Type) (enc : TypeId × Value → H) :
    ReturnsInTold none {} Tryf.checked os 3 .any Input.okWide ((OpenSpec.ofChange Rows.fnSubstituteMultiCompoundParentTableSpec).preRow enc Tryf.prog Tryf.f3 Rows.fnSubstituteMultiCompoundParentTableRow.domain false Rows.fnSubstituteMultiCompoundParentTableRow.laid)
      (fun F => ((OpenSpec.ofChange Rows.fnSubstituteMultiCompoundParentTableSpec).at F).post enc Tryf.prog Tryf.f3 false true false false) (aloneAtReturn Tryf.prog) nothingAlways := by
  refine returnsInTold_of_row (C := Tryf.checked) (s := OpenSpec.ofChange Rows.fnSubstituteMultiCompoundParentTableSpec) (by kernel_rfl) own started (by kernel_rfl) Tryf.func3 (witness os H enc) ?_
  intro F W base args ds gs before _ hF hval0 hW hcnd _ _ hL _
  have hval : ∀ (j : Nat) t v, Tryf.f3.params[j]? = some t → args[j]? = some v → Value.okWide Tryf.prog W .any base t v := hval0
  have hW' := hW
  obtain ⟨p, q, hA0, hV, rfl, hfz, hnd⟩ := hW
  have hA : DataW.TrodAll enc Tryf.prog W 0 (fun _ => true) true Tryf.f3.params.toList args.toList ds p := hA0
  rw [Tryf.params3] at hA hval
  obtain ⟨v0, vs0, d0, ds0, p0, q0, hargs, rfl, rfl, h0, r0⟩ := trodAll_cons hA
  obtain ⟨v1, vs1, d1, ds1, p1, q1, rfl, rfl, rfl, h1, r1⟩ := trodAll_cons r0
  obtain ⟨v2, vs2, d2, ds2, p2, q2, rfl, rfl, rfl, h2, r2⟩ := trodAll_cons r1
  obtain ⟨v3, vs3, d3, ds3, p3, q3, rfl, rfl, rfl, h3, r3⟩ := trodAll_cons r2
  obtain ⟨rfl, rfl, rfl⟩ := trodAll_nil r3
  obtain rfl : args = #[v0, v1, v2, v3] := by cases args; simp_all
  have hV1 := hV
  obtain ⟨rfl, rfl⟩ := trodVars_none hV
  have k0 := h0
  have lt0 : ∀ x ∈ p0, x.block < W.heap.size := by obtain ⟨m, hm⟩ := k0; exact DataW.trod_lt m _ _ _ hm
  obtain ⟨cb0, am0, u0, N0, rfl, w0⟩ := Sb.open_cmp (hval 0 24 v0 rfl rfl) h0
  have k1 := h1
  have lt1 : ∀ x ∈ p1, x.block < W.heap.size := by obtain ⟨m, hm⟩ := k1; exact DataW.trod_lt m _ _ _ hm
  obtain ⟨u1, L1, rfl, w1⟩ := Sb.open_cx (hval 1 27 v1 rfl rfl) h1
  have k2 := h2
  have lt2 : ∀ x ∈ p2, x.block < W.heap.size := by obtain ⟨m, hm⟩ := k2; exact DataW.trod_lt m _ _ _ hm
  obtain ⟨u2, L2, rfl, w2⟩ := open_cms2 (hval 2 25 v2 rfl rfl) h2
  obtain ⟨a3, rfl, rfl, rfl⟩ := open_bool Tryf.underlying4 (hval 3 4 v3 rfl rfl) h3
  clear hA0 hval0
  refine (walk cb0 am0 u0 N0 u1 L1 u2 L2 a3 W w0 w1 w2).mono fun e W' ⟨he, bel⟩ => ?_
  subst he
  exact ⟨_, rfl, _, _, _, [], _, _, hW', trodAll_mk1 (shut_bool Tryf.underlying4 _), (trodAll_cons_mk (Below.trod laidOut (by kernel_rfl) (of_decide_eq_true (by kernel_rfl)) k0 bel lt0) (trodAll_cons_mk (Below.trod laidOut (by kernel_rfl) (of_decide_eq_true (by kernel_rfl)) k1 bel lt1) (trodAll_cons_mk (Below.trod laidOut (by kernel_rfl) (of_decide_eq_true (by kernel_rfl)) k2 bel lt2) (trodAll_cons_mk (shut_bool Tryf.underlying4 a3) trodAll_mk0)))), rfl, bel.frame _, fun h => by cases h⟩

theorem stops0 : Tryf.pinned.checked.prog.stops = "fmt.Sprintf" :: [] := by kernel_rfl
theorem stopKnobs : Tryf.pinned.checked.prog.stopKnobs = [] := by kernel_rfl
theorem quiet (os : Os) : Stop.quiet Tryf.pinned.checked.prog os := by
  intro k hk
  rw [stopKnobs] at hk
  cases hk

/-- THE STATEMENT: fmt's texts are told by the form's own Lean function (the law's own way never comes to fmt); the listed variables are tied to the program's text. -/
theorem proved : Rows.FnSubstituteMultiCompoundParentTableToldSaid :=
  Claim7.holds_of_told_tied_any_at .later 3 Tryf.f3 "fmt.Sprintf" [] [] _ _ _ _ _ (by kernel_rfl) rfl rfl rfl laidOut (by kernel_rfl) rfl ⟨rfl, rfl, rfl, rfl, rfl, rfl, rfl⟩ rfl rfl (by kernel_rfl) (by kernel_rfl) Tryf.func3 (by kernel_rfl)
    (of_decide_eq_true (by kernel_rfl)) (by unfold Func.isWrapper; first | (rw [if_pos (by decide +kernel)]; kernel_rfl) | (rw [if_neg (by decide +kernel)]; exact ⟨rfl, rfl⟩)) stops0.symm rfl stopKnobs.symm (by kernel_rfl)
    (by kernel_rfl) (by kernel_rfl) (by kernel_rfl) (by kernel_rfl) (by kernel_rfl) (by kernel_rfl) (by kernel_rfl) (by kernel_rfl) (by kernel_rfl) rfl (by kernel_rfl) rfl rfl
    rfl rfl
    rfl (by kernel_rfl) (by kernel_rfl) (by kernel_rfl) (by decide) (by kernel_rfl) fnSubstituteMultiCompoundParentTable_row_tie
    (OpenClaim.moreEntering_of (by kernel_rfl) (by kernel_rfl) (by kernel_rfl) (by kernel_rfl) (by kernel_rfl) (by kernel_rfl) (by kernel_rfl) (by kernel_rfl) (by kernel_rfl) (by kernel_rfl))
    ⟨_, WideRow.started_initial, quiet _⟩
    (fun os started _ H enc _ => lifted os started H enc)
#print axioms proved
end Go.Proofs.YtaiofdgiabmelaaFmt.fnSubstituteMultiCompoundParentTable
