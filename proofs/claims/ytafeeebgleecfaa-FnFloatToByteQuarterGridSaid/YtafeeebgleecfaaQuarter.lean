/-
  For every 32-bit n the byte of n / 1020 is a nearest whole number of n / 4, held to 0..255; no conditions.
-/
import Derived.Test.YtafeeebgleecfaaRows
import Derived.WalkKit
import Derived.ProofKit
import Derived.OpenShut
import Derived.ShutString
import Derived.ChangeOld
import Derived.Below
import Derived.Lib.Hide
import Derived.Outline
import Derived.Laws.Cover2
import Derived.Laws.FloatArith
import Derived.Test.YtafeeebgleecfaaByt
namespace Go.Proofs.Ytafeeebgleecfaa.fnFloatToByteQuarterGrid
open Go.ChangeShapes Go.WideShapes Go.ChangeAt Go.RowKit
open Go.ChangeMaps (open_string shut_string)
set_option linter.unusedVariables false

theorem own : ownKnob Try.prog.godebug = none := by kernel_rfl
theorem laidOut : laidOutB Try.prog = true := by kernel_rfl

open Byt FL
theorem tdiv4 (n : Int) (h : n < 0) : n.tdiv 4 = -((-n) / 4) ∧ n.tmod 4 = n + 4 * ((-n) / 4) := by
  have e : n.tdiv 4 = -((-n) / 4) := by
    have h1 : (-n).tdiv 4 = (-n) / 4 := Int.tdiv_eq_ediv_of_nonneg (by omega)
    rw [Int.neg_tdiv] at h1
    omega
  refine ⟨e, ?_⟩
  rw [Int.tmod_def, e]
  omega
/-- the law at 'n = 4 q + r', told by what its quotient and remainder are -/
theorem body (n q r m : Int) (f p : Nat) (w : World) (h1 : -2147483648 ≤ n) (h2 : n ≤ 2147483647) (hn : n = 4 * q + r) (hr : r = 0 ∨ r = 1 ∨ r = 2 ∨ r = 3)
    (hd : Ieee.double.div (floatOfInt .f64 n) 4652183230701633536 = some f) (hp : Ieee.double.mul f 4643176031446892544 = some p) (fp : Finite p) (hm : floatToIntVal .f64 (roundW p) .i64 = some m) (g1 : 4 * m - 2 ≤ n) (g2 : n ≤ 4 * m + 2) :
    Calls Try.prog 7 #[.int .i32 n] w fun e w' => e = .returned (.bool true) ∧ Below w.heap.size w w' := by
  have H := fun w => ZZbyte_any f p m w hp fp hm
  have hdiv : ∀ w, (binOp .quo 22 (.float .f64 (floatOfInt .f64 n)) (.float .f64 4652183230701633536)).run Try.prog w = .ok (.float .f64 f) w := fun w => run_float_arith w .quo 22 .f64 _ _ _ hd
  clear hd hp fp hm
  have H := Lib.hid H
  have q1 : -536870912 ≤ q := by omega
  have q2 : q ≤ 536870911 := by omega
  rcases (by omega : 0 ≤ n ∨ n < 0) with hs | hs
  · rcases hr with rfl | rfl | rfl | rfl
    · have hq : n / 4 = q := by omega
      have hr : n % 4 = 0 := by omega
      have hx : n - 4 * q = 0 := by omega
      obtain rfl : m = q := by omega
      clear g1 g2 hn
      go_enter Try.func7, Try.ntmps7
      go_wp2_with (first | (go_at_call 28; refine (H.out _).mono ?_; rintro e w' ⟨rfl, rfl⟩) | (go_at_call 29; refine (clamp_any _ _).mono ?_; rintro e w' ⟨rfl, rfl⟩))
      all_goals (go_ret; exact ⟨rfl, Below.refl _ _⟩)
    · have hq : n / 4 = q := by omega
      have hr : n % 4 = 1 := by omega
      have hx : n - 4 * q = 1 := by omega
      obtain rfl : m = q := by omega
      clear g1 g2 hn
      go_enter Try.func7, Try.ntmps7
      go_wp2_with (first | (go_at_call 28; refine (H.out _).mono ?_; rintro e w' ⟨rfl, rfl⟩) | (go_at_call 29; refine (clamp_any _ _).mono ?_; rintro e w' ⟨rfl, rfl⟩))
      all_goals (go_ret; exact ⟨rfl, Below.refl _ _⟩)
    · have hq : n / 4 = q := by omega
      have hr : n % 4 = 2 := by omega
      have hx : n - 4 * q = 2 := by omega
      rcases (by omega : m = q ∨ m = q + 1) with rfl | rfl
      · clear g1 g2 hn
        go_enter Try.func7, Try.ntmps7
        go_wp2_with (first | (go_at_call 28; refine (H.out _).mono ?_; rintro e w' ⟨rfl, rfl⟩) | (go_at_call 29; refine (clamp_any _ _).mono ?_; rintro e w' ⟨rfl, rfl⟩))
        all_goals (go_ret; exact ⟨rfl, Below.refl _ _⟩)
      · clear g1 g2 hn
        go_enter Try.func7, Try.ntmps7
        go_wp2_with (first | (go_at_call 28; refine (H.out _).mono ?_; rintro e w' ⟨rfl, rfl⟩) | (go_at_call 29; refine (clamp_any _ _).mono ?_; rintro e w' ⟨rfl, rfl⟩))
        all_goals (go_ret; exact ⟨rfl, Below.refl _ _⟩)
    · have hq : n / 4 = q := by omega
      have hr : n % 4 = 3 := by omega
      have hx : n - 4 * q = 3 := by omega
      obtain rfl : m = q + 1 := by omega
      clear g1 g2 hn
      go_enter Try.func7, Try.ntmps7
      go_wp2_with (first | (go_at_call 28; refine (H.out _).mono ?_; rintro e w' ⟨rfl, rfl⟩) | (go_at_call 29; refine (clamp_any _ _).mono ?_; rintro e w' ⟨rfl, rfl⟩))
      all_goals (go_ret; exact ⟨rfl, Below.refl _ _⟩)
  · rcases hr with rfl | rfl | rfl | rfl
    · have hq : n.tdiv 4 = q := by rw [(tdiv4 n hs).1]; omega
      have hr : n.tmod 4 = 0 := by rw [(tdiv4 n hs).2]; omega
      have hx : n - 4 * q = 0 := by omega
      obtain rfl : m = q := by omega
      clear g1 g2 hn
      go_enter Try.func7, Try.ntmps7
      go_wp2_with (first | (go_at_call 28; refine (H.out _).mono ?_; rintro e w' ⟨rfl, rfl⟩) | (go_at_call 29; refine (clamp_any _ _).mono ?_; rintro e w' ⟨rfl, rfl⟩))
      all_goals (go_ret; exact ⟨rfl, Below.refl _ _⟩)
    · have hq : n.tdiv 4 = q + 1 := by rw [(tdiv4 n hs).1]; omega
      have hr : n.tmod 4 = -3 := by rw [(tdiv4 n hs).2]; omega
      have hx : n - 4 * q = 1 := by omega
      obtain rfl : m = q := by omega
      clear g1 g2 hn
      go_enter Try.func7, Try.ntmps7
      go_wp2_with (first | (go_at_call 28; refine (H.out _).mono ?_; rintro e w' ⟨rfl, rfl⟩) | (go_at_call 29; refine (clamp_any _ _).mono ?_; rintro e w' ⟨rfl, rfl⟩))
      all_goals (go_ret; exact ⟨rfl, Below.refl _ _⟩)
    · have hq : n.tdiv 4 = q + 1 := by rw [(tdiv4 n hs).1]; omega
      have hr : n.tmod 4 = -2 := by rw [(tdiv4 n hs).2]; omega
      have hx : n - 4 * q = 2 := by omega
      rcases (by omega : m = q ∨ m = q + 1) with rfl | rfl
      · clear g1 g2 hn
        go_enter Try.func7, Try.ntmps7
        go_wp2_with (first | (go_at_call 28; refine (H.out _).mono ?_; rintro e w' ⟨rfl, rfl⟩) | (go_at_call 29; refine (clamp_any _ _).mono ?_; rintro e w' ⟨rfl, rfl⟩))
        all_goals (go_ret; exact ⟨rfl, Below.refl _ _⟩)
      · clear g1 g2 hn
        go_enter Try.func7, Try.ntmps7
        go_wp2_with (first | (go_at_call 28; refine (H.out _).mono ?_; rintro e w' ⟨rfl, rfl⟩) | (go_at_call 29; refine (clamp_any _ _).mono ?_; rintro e w' ⟨rfl, rfl⟩))
        all_goals (go_ret; exact ⟨rfl, Below.refl _ _⟩)
    · have hq : n.tdiv 4 = q + 1 := by rw [(tdiv4 n hs).1]; omega
      have hr : n.tmod 4 = -1 := by rw [(tdiv4 n hs).2]; omega
      have hx : n - 4 * q = 3 := by omega
      obtain rfl : m = q + 1 := by omega
      clear g1 g2 hn
      go_enter Try.func7, Try.ntmps7
      go_wp2_with (first | (go_at_call 28; refine (H.out _).mono ?_; rintro e w' ⟨rfl, rfl⟩) | (go_at_call 29; refine (clamp_any _ _).mono ?_; rintro e w' ⟨rfl, rfl⟩))
      all_goals (go_ret; exact ⟨rfl, Below.refl _ _⟩)

set_option maxRecDepth 100000 in
set_option maxHeartbeats 4000000 in
/-- THE WALK -/
theorem walk (a0 : Int) (w : World) (w0 : (Lit.int .i32 a0).wf = true) :
    Calls Try.prog 7 #[.int .i32 a0] w fun e w' => e = .returned (.bool true) ∧ Below w.heap.size w w' := by
  have hw : -2147483648 ≤ a0 ∧ a0 ≤ 2147483647 := by simpa [Lit.wf, IntKind.min, IntKind.max, IntKind.bits, IntKind.signed] using w0
  obtain ⟨r, p, m, hr, hp, fp, hm, g1, g2⟩ := FL.core29 a0 hw.1 hw.2
  exact body a0 (a0 / 4) (a0 % 4) m r p w hw.1 hw.2 (by omega) (by omega) hr hp fp hm g1 g2

set_option maxRecDepth 100000 in
theorem lifted (os : Os) (started : os.Started) (H : Type) (enc : TypeId × Value → H) :
    ReturnsInHanded {} Try.checked os 7 .any (Rows.fnFloatToByteQuarterGridSpec.pre6 enc Try.prog Try.f7 Rows.fnFloatToByteQuarterGridRow.domain false) (Rows.fnFloatToByteQuarterGridSpec.post enc Try.prog Try.f7 false true false false) := by
  refine returnsInHanded_of_change (C := Try.checked) own started (by kernel_rfl) Try.func7
    (ChangeSpec.witness6 (enc := enc) (C := Try.checked) false ⟨#[], #[.int .i32 0], []⟩ 8 (by kernel_rfl) (by kernel_rfl) (by kernel_rfl) (by kernel_rfl)) ?_
  intro W base args ds gs before hval0 hW hcnd _
  have hval : ∀ (j : Nat) t v, Try.f7.params[j]? = some t → args[j]? = some v → Value.okWide Try.prog W .any base t v := hval0
  have hW' := hW
  obtain ⟨p, q, hA0, hV, rfl, hfz, hnd⟩ := hW
  have hA : DataW.TrodAll enc Try.prog W 0 (fun _ => true) true Try.f7.params.toList args.toList ds p := hA0
  rw [Try.params7] at hA hval
  obtain ⟨v0, vs0, d0, ds0, p0, q0, hargs, rfl, rfl, h0, r0⟩ := trodAll_cons hA
  obtain ⟨rfl, rfl, rfl⟩ := trodAll_nil r0
  obtain rfl : args = #[v0] := by cases args; simp_all
  obtain ⟨rfl, rfl⟩ := trodVars_none hV
  obtain ⟨a0, rfl, rfl, rfl, w0⟩ := open_int Try.underlying21 (hval 0 21 v0 rfl rfl) h0
  clear hA0 hval0
  refine (walk a0 W w0).mono fun e W' ⟨he, bel⟩ => ?_
  subst he
  exact ⟨_, rfl, _, _, _, [], _, [], hW', trodAll_mk1 (shut_bool Try.underlying4 _), (trodAll_cons_mk (shut_int Try.underlying21 w0) trodAll_mk0), rfl, bel.frame _, fun h => by cases h⟩

theorem over : Rows.fnFloatToByteQuarterGridRow.holds Try.pinned (OpenSpec.ofChange Rows.fnFloatToByteQuarterGridSpec) :=
  OpenClaim.holds_of_wide 7 Try.f7 rfl rfl rfl rfl rfl rfl rfl ⟨rfl, rfl, rfl, rfl, rfl⟩ rfl rfl rfl rfl rfl (by kernel_rfl) Try.func7 (by kernel_rfl)
    (of_decide_eq_true (by kernel_rfl)) (by unfold Func.isWrapper; first | (rw [if_pos (by decide +kernel)]; kernel_rfl) | (rw [if_neg (by decide +kernel)]; exact ⟨rfl, rfl⟩))
    (fun os started H enc _ => lifted os started H enc)

/-- THE STATEMENT -/
theorem proved : Rows.FnFloatToByteQuarterGridSaid := over
#print axioms proved
end Go.Proofs.Ytafeeebgleecfaa.fnFloatToByteQuarterGrid
