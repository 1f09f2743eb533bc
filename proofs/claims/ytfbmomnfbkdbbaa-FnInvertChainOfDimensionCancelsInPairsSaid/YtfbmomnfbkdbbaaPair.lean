/-
  A dimension under k nested Inverts, k from 0 to 65536, simplifies to that very node under k mod 2 Inverts: the Go law FnInvertChainOfDimensionCancelsInPairs returns true for every input. No condition.
-/
import Derived.Test.YtfbmomnfbkdbbaaRows
import Derived.WalkKit
import Derived.ProofKit
import Derived.OpenShut
import Derived.ShutString
import Derived.ChangeOld
import Derived.Below
import Derived.Lib.Hide
import Derived.Outline
import Derived.Laws.Cover2
import Derived.Test.YtfbmomnfbkdbbaaChn
namespace Go.Proofs.Ytfbmomnfbkdbbaa.fnInvertChainOfDimensionCancelsInPairs
open Go.ChangeShapes Go.WideShapes Go.ChangeAt Go.RowKit
open Go.ChangeMaps (open_string shut_string)
set_option linter.unusedVariables false

theorem own : ownKnob Try.prog.godebug = none := by kernel_rfl
theorem laidOut : laidOutB Try.prog = true := by kernel_rfl

open Go.Proofs.Ytfbmomnfbkdbbaa.Inv
theorem read_one : FloatKind.f64.format.read 4607182418800017408 = .number false 4503599627370496 (-52) := by decide +kernel
theorem div_some (x : Nat) (h : (FloatKind.f64.format.order x x != some Ordering.eq) = false) : ∃ r, FloatKind.f64.format.div 4607182418800017408 x = some r := by
  unfold Ieee.Format.order at h
  unfold Ieee.Format.div
  rw [read_one]
  generalize FloatKind.f64.format.read x = d at h ⊢
  generalize FloatKind.f64.format.fractionBits + 2 = q
  cases d with
  | nan s t => simp [Ieee.Datum.order] at h
  | infinity s => exact ⟨_, rfl⟩
  | number s m i =>
    by_cases hm : m = 0
    · exact ⟨_, by simp only [Ieee.Datum.quotient, hm, if_true]; rfl⟩
    · exact ⟨_, by simp only [Ieee.Datum.quotient, hm, if_false]; rfl⟩
set_option maxRecDepth 100000 in
theorem same_any (x : Nat) (w : World) :
    Calls Try.prog 17 #[.float .f64 x, .float .f64 x] w fun e w' => e = .returned (.bool true) ∧ Below w.heap.size w w' := by
  by_cases hn : (FloatKind.f64.format.order x x != some Ordering.eq) = false
  · obtain ⟨r, hr⟩ := div_some x hn
    have hq : ∀ w, (binOp .quo 28 (.float .f64 4607182418800017408) (.float .f64 x)).run Try.prog w = .ok (.float .f64 r) w := fun w => run_float_arith w .quo 28 .f64 _ _ _ hr
    clear hr
    go_enter Try.func17, Try.ntmps17
    go_wp2
    all_goals try go_ret
    all_goals first | exact ⟨rfl, Below.refl _ _⟩ | skip
  · go_enter Try.func17, Try.ntmps17
    go_wp2
    all_goals first | (exfalso; simp_all; done) | skip
    all_goals try go_ret
    all_goals first | exact ⟨rfl, Below.refl _ _⟩ | skip
theorem zzb_yes (U : ByteArray) (x : Nat) (k : Int) (h : (U.size : Int) ≤ 1048576) (w : World) :
    Calls Try.prog 15 #[.string U, .float .f64 x, .int .i64 k] w fun e w' => e = .returned (.bool true) ∧ w = w' := by
  go_enter Try.func15, Try.ntmps15
  go_wp2
  go_ret
  exact ⟨rfl, rfl⟩
theorem zzb_no (U : ByteArray) (x : Nat) (k : Int) (h : 1048576 < (U.size : Int)) (w : World) :
    Calls Try.prog 15 #[.string U, .float .f64 x, .int .i64 k] w fun e w' => e = .returned (.bool false) ∧ w = w' := by
  go_enter Try.func15, Try.ntmps15
  go_wp2
  go_ret
  exact ⟨rfl, rfl⟩

set_option maxRecDepth 100000 in
set_option maxHeartbeats 4000000 in
/-- THE WALK -/
theorem walk (a0 : ByteArray) (a1 : Nat) (a2 : Int) (w : World) (w0 : a0.size ≤ maxLen) (w1 : (Lit.float .f64 a1).wf = true) (w2 : (Lit.int .i64 a2).wf = true) :
    Calls Try.prog 5 #[.string a0, .float .f64 a1, .int .i64 a2] w fun e w' => e = .returned (.bool true) ∧ Below w.heap.size w w' := by
  clear w0 w1 w2
  by_cases p0 : (a0.size : Int) ≤ 1048576
  case neg =>
    go_enter Try.func5, Try.ntmps5
    go_wp2_with fail
    refine (zzb_no a0 a1 a2 (by omega) _).mono ?_
    rintro e w' ⟨rfl, rfl⟩
    go_wp2
    go_ret
    exact ⟨rfl, Below.refl _ _⟩
  by_cases p1 : 0 ≤ a2
  case neg =>
    go_enter Try.func5, Try.ntmps5
    go_wp2_with fail
    refine (zzb_yes a0 a1 a2 p0 _).mono ?_
    rintro e w' ⟨rfl, rfl⟩
    go_wp2
    go_ret
    exact ⟨rfl, Below.refl _ _⟩
  by_cases p2 : a2 ≤ 65536
  case neg =>
    go_enter Try.func5, Try.ntmps5
    go_wp2_with fail
    refine (zzb_yes a0 a1 a2 p0 _).mono ?_
    rintro e w' ⟨rfl, rfl⟩
    go_wp2
    go_ret
    exact ⟨rfl, Below.refl _ _⟩
  cases hU : a0.toList.isEmpty
  case true =>
    go_enter Try.func5, Try.ntmps5
    go_wp2_with fail
    refine (zzb_yes a0 a1 a2 p0 _).mono ?_
    rintro e w' ⟨rfl, rfl⟩
    go_wp2
    go_ret
    exact ⟨rfl, Below.refl _ _⟩
  obtain ⟨k, rfl⟩ := Int.eq_ofNat_of_zero_le p1
  have HC := Lib.hid (chain_any a0 hU a1 k p2 w)
  go_enter Try.func5, Try.ntmps5
  go_wp2_with fail
  refine (zzb_yes a0 a1 _ p0 _).mono ?_
  rintro e w' ⟨rfl, rfl⟩
  go_wp2_with fail
  refine HC.out.mono ?_
  rintro e w1 ⟨rfl, hb⟩
  have HB := Lib.hid hb
  clear hb HC
  go_wp2_with fail
  refine (same_any a1 w1).mono ?_
  rintro e w2 ⟨rfl, hb2⟩
  go_wp2
  go_ret
  exact ⟨rfl, HB.out.trans (hb2.mono HB.out.size)⟩

set_option maxRecDepth 100000 in
theorem lifted (os : Os) (started : os.Started) (H : Type) (enc : TypeId × Value → H) :
    ReturnsInHanded {} Try.checked os 5 .any (Rows.fnInvertChainOfDimensionCancelsInPairsSpec.pre6 enc Try.prog Try.f5 Rows.fnInvertChainOfDimensionCancelsInPairsRow.domain false) (Rows.fnInvertChainOfDimensionCancelsInPairsSpec.post enc Try.prog Try.f5 false true false false) := by
  refine returnsInHanded_of_change (C := Try.checked) own started (by kernel_rfl) Try.func5
    (ChangeSpec.witness6 (enc := enc) (C := Try.checked) false ⟨#[], #[.string ByteArray.empty, .float .f64 0, .int .i64 0], []⟩ 8 (by kernel_rfl) (by kernel_rfl) (by kernel_rfl) (by kernel_rfl)) ?_
  intro W base args ds gs before hval0 hW hcnd _
  have hval : ∀ (j : Nat) t v, Try.f5.params[j]? = some t → args[j]? = some v → Value.okWide Try.prog W .any base t v := hval0
  have hW' := hW
  obtain ⟨p, q, hA0, hV, rfl, hfz, hnd⟩ := hW
  have hA : DataW.TrodAll enc Try.prog W 0 (fun _ => true) true Try.f5.params.toList args.toList ds p := hA0
  rw [Try.params5] at hA hval
  obtain ⟨v0, vs0, d0, ds0, p0, q0, hargs, rfl, rfl, h0, r0⟩ := trodAll_cons hA
  obtain ⟨v1, vs1, d1, ds1, p1, q1, rfl, rfl, rfl, h1, r1⟩ := trodAll_cons r0
  obtain ⟨v2, vs2, d2, ds2, p2, q2, rfl, rfl, rfl, h2, r2⟩ := trodAll_cons r1
  obtain ⟨rfl, rfl, rfl⟩ := trodAll_nil r2
  obtain rfl : args = #[v0, v1, v2] := by cases args; simp_all
  obtain ⟨rfl, rfl⟩ := trodVars_none hV
  obtain ⟨a0, rfl, rfl, rfl, w0⟩ := open_string Try.underlying9 (hval 0 9 v0 rfl rfl) h0
  obtain ⟨a1, rfl, rfl, rfl, w1⟩ := open_float Try.underlying28 (hval 1 28 v1 rfl rfl) h1
  obtain ⟨a2, rfl, rfl, rfl, w2⟩ := open_int Try.underlying3 (hval 2 3 v2 rfl rfl) h2
  clear hA0 hval0
  refine (walk a0 a1 a2 W w0 w1 w2).mono fun e W' ⟨he, bel⟩ => ?_
  subst he
  exact ⟨_, rfl, _, _, _, [], _, [], hW', trodAll_mk1 (shut_bool Try.underlying4 _), (trodAll_cons_mk (shut_string Try.underlying9 w0) (trodAll_cons_mk (shut_float Try.underlying28 w1) (trodAll_cons_mk (shut_int Try.underlying3 w2) trodAll_mk0))), rfl, bel.frame _, fun h => by cases h⟩

theorem over : Rows.fnInvertChainOfDimensionCancelsInPairsRow.holds Try.pinned (OpenSpec.ofChange Rows.fnInvertChainOfDimensionCancelsInPairsSpec) :=
  OpenClaim.holds_of_wide 5 Try.f5 rfl rfl rfl rfl rfl rfl rfl ⟨rfl, rfl, rfl, rfl, rfl⟩ rfl rfl rfl rfl rfl (by kernel_rfl) Try.func5 (by kernel_rfl)
    (of_decide_eq_true (by kernel_rfl)) (by unfold Func.isWrapper; first | (rw [if_pos (by decide +kernel)]; kernel_rfl) | (rw [if_neg (by decide +kernel)]; exact ⟨rfl, rfl⟩))
    (fun os started H enc _ => lifted os started H enc)

/-- THE STATEMENT -/
theorem proved : Rows.FnInvertChainOfDimensionCancelsInPairsSaid := over
#print axioms proved
end Go.Proofs.Ytfbmomnfbkdbbaa.fnInvertChainOfDimensionCancelsInPairs
