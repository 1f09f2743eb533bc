/-
  For finite x, y, z of magnitude at most 1e9, d50_to_d65 after d65_to_d50 gives back each coordinate within 1e-7 times the sum of the magnitudes (plus 1e-300): the Go law FnD65ToD50RoundTrip returns true for every input. No condition.
-/
import Derived.Test.YthjgigahhooilaaRows
import Derived.WalkKit
import Derived.ProofKit
import Derived.OpenShut
import Derived.ShutString
import Derived.ChangeOld
import Derived.Below
import Derived.Lib.Hide
import Derived.Outline
import Derived.Laws.Cover2
import Derived.Test.YthjgigahhooilaaWrap
import Derived.Test.YthjgigahhooilaaCoreThirteen
namespace Go.Proofs.Ythjgigahhooilaa.fnD65ToD50RoundTrip
open Go.ChangeShapes Go.WideShapes Go.ChangeAt Go.RowKit
open Go.ChangeMaps (open_string shut_string)
set_option linter.unusedVariables false

theorem own : ownKnob Try.prog.godebug = none := by kernel_rfl
theorem laidOut : laidOutB Try.prog = true := by kernel_rfl

open FL Mat
theorem run_neg (x : Nat) (w : World) : (Op.unary .neg (.float .f64 x)).run Try.prog w = .ok (.float .f64 (flip x)) w := rfl
set_option maxHeartbeats 400000 in
theorem zzAbs_any (x : Nat) (w : World) : Calls Try.prog 24 #[.float .f64 x] w fun e w' => e = .returned (.float .f64 (absW x)) ∧ w = w' := by
  cases h1 : ltB x 0 with
  | false =>
    have g : absW x = x := by unfold absW; rw [h1]; rfl
    have h2 : (FloatKind.f64.format.order x 0 == some .lt) = false := h1
    rw [g]
    clear h1
    go_enter Try.func24, Try.ntmps24
    go_wp2
    go_ret
    exact ⟨rfl, rfl⟩
  | true =>
    have g : absW x = flip x := by unfold absW; rw [h1]; rfl
    have hn := fun w => run_neg x w
    have h2 : (FloatKind.f64.format.order x 0 == some .lt) = true := h1
    rw [g]
    clear h1
    go_enter Try.func24, Try.ntmps24
    go_wp2
    go_ret
    exact ⟨rfl, rfl⟩
set_option maxHeartbeats 400000 in
theorem zzIn_any (x m : Nat) (w : World) : Calls Try.prog 21 #[.float .f64 x, .float .f64 m] w fun e w' => e = .returned (.bool (geB x (flip m) && leB x m)) ∧ w = w' := by
  have hn := fun w => run_neg m w
  have H := Lib.hid (rfl : flip m = flip m)
  generalize flip m = lo at *
  cases h1 : FloatKind.f64.format.order x lo with
  | none =>
    have g : geB x lo = false := by unfold geB; rw [show Ieee.double.order x lo = none from h1]; rfl
    rw [g]
    go_enter Try.func21, Try.ntmps21
    go_wp2
    go_ret
    exact ⟨rfl, rfl⟩
  | some o =>
    cases o
    · have g : geB x lo = false := by unfold geB; rw [show Ieee.double.order x lo = some .lt from h1]; rfl
      rw [g]
      go_enter Try.func21, Try.ntmps21
      go_wp2
      go_ret
      exact ⟨rfl, rfl⟩
    · have g : geB x lo = true := by unfold geB; rw [show Ieee.double.order x lo = some .eq from h1]; rfl
      rw [g]
      go_enter Try.func21, Try.ntmps21
      go_wp2
      go_ret
      exact ⟨rfl, rfl⟩
    · have g : geB x lo = true := by unfold geB; rw [show Ieee.double.order x lo = some .gt from h1]; rfl
      rw [g]
      go_enter Try.func21, Try.ntmps21
      go_wp2
      go_ret
      exact ⟨rfl, rfl⟩
set_option maxHeartbeats 400000 in
theorem zzNear_any (a b t d : Nat) (hs : Ieee.double.sub a b = some d) (hle : leB (absW d) t = true) (w : World) : Calls Try.prog 25 #[.float .f64 a, .float .f64 b, .float .f64 t] w fun e w' => e = .returned (.bool true) ∧ w = w' := by
  have hm : ∀ w, (binOp .sub 22 (.float .f64 a) (.float .f64 b)).run Try.prog w = .ok (.float .f64 d) w := fun w => run_float_arith w .sub 22 .f64 a b d hs
  have h3 : (FloatKind.f64.format.order (absW d) t == some .lt || FloatKind.f64.format.order (absW d) t == some .eq) = true := hle
  clear hs hle
  go_enter Try.func25, Try.ntmps25
  go_wp2_with fail
  refine (zzAbs_any d _).mono ?_
  rintro e w' ⟨rfl, rfl⟩
  go_wp2
  go_ret
  exact ⟨rfl, rfl⟩
theorem val_4741671816366391296 : FL.val 4741671816366391296 = (1000000000 : Rat) := by decide +kernel
theorem fin_4741671816366391296 : FL.Finite 4741671816366391296 := by decide +kernel
theorem val_4502148214488346440 : FL.val 4502148214488346440 = (944473296573929 : Rat) / 9444732965739290427392 := by decide +kernel
theorem fin_4502148214488346440 : FL.Finite 4502148214488346440 := by decide +kernel
theorem val_118622047889322841 : FL.val 118622047889322841 = (6032057205060441 : Rat) / 6032057205060440848842124543157735677050252251748505781796615064961622344493727293370973578138265743708225425014400837164813540499979063179105919597766951022193355091707896034850684039059079180396788349106095584290087446076413771468940477241550670753145517602931224392424029547429993824129889235158145614364972941312 := by decide +kernel
theorem fin_118622047889322841 : FL.Finite 118622047889322841 := by decide +kernel
theorem p2_small : (1000000000000000 : Rat) < p2 1023 := by
  have := p2_big
  have : (1000000000000000 : Rat) ≤ 2 ^ 1000 := by decide +kernel
  grind
theorem close_ok (r' r tol : Nat) (m : Rat) (fr' : Finite r') (fr : Finite r) (ft : Finite tol) (hm0 : 0 ≤ m) (hm : m ≤ 10000000000)
    (h3 : -(m * (1 / 100000000) + (1 / 10 ^ 310)) ≤ val r' - val r) (h4 : val r' - val r ≤ m * (1 / 100000000) + (1 / 10 ^ 310)) (ht : m * (1 / 20000000) + (1 / 10 ^ 305) ≤ val tol) :
    ∃ d, Ieee.double.sub r' r = some d ∧ leB (absW d) tol = true := by
  have hp := p2_small
  obtain ⟨d, e, fd, bd⟩ := sub_ok r' r fr' fr (by grind) (by grind)
  obtain ⟨d1, d2⟩ := bd (m * (1 / 100000000) + (1 / 10 ^ 310)) h3 h4
  unfold u at d1 d2
  obtain ⟨fa, -, -, -, hv⟩ := absW_ok fd
  refine ⟨d, e, ?_⟩
  rw [leB_ok fa ft]
  clear hp bd
  rcases hv with hv | hv <;> rw [hv] <;> simp only [decide_eq_true_eq] <;> grind
theorem final (r g b : Nat) (q0 : r < 2 ^ 64) (q1 : g < 2 ^ 64) (q2 : b < 2 ^ 64)
    (h0 : (geB r (flip 4741671816366391296) && leB r 4741671816366391296) = true) (h1 : (geB g (flip 4741671816366391296) && leB g 4741671816366391296) = true) (h2 : (geB b (flip 4741671816366391296) && leB b 4741671816366391296) = true) :
    ∃ x y z r' g' b' d0 d1 d2 s1 s2 s3 tol, Mat.row3 4607398275395863001 4582271206553430542 13810766325786792494 r g b = some x ∧ Mat.row3 4584196855874768158 4607096259775803785 13803950445789587696 r g b = some y ∧ Mat.row3 13799853908800311418 4579832348793622812 4604947501012614851 r g b = some z ∧ Mat.row3 4606781359035228631 13805686934621605564 4589222729528858206 x y z = some r' ∧ Mat.row3 13807206270255814006 4607227434071091789 4581722003917944388 x y z = some g' ∧ Mat.row3 4578252168053708272 13804940185734608780 4608670254662337346 x y z = some b' ∧
      Ieee.double.sub r' r = some d0 ∧ Ieee.double.sub g' g = some d1 ∧ Ieee.double.sub b' b = some d2 ∧
      floatBits .add .f64 (absW r) (absW g) = some s1 ∧ floatBits .add .f64 s1 (absW b) = some s2 ∧ floatBits .mul .f64 4502148214488346440 s2 = some s3 ∧ floatBits .add .f64 s3 118622047889322841 = some tol ∧
      leB (absW d0) tol = true ∧ leB (absW d1) tol = true ∧ leB (absW d2) tol = true := by
  simp only [Bool.and_eq_true] at h0 h1 h2
  have fl : Finite (flip 4741671816366391296) := flip_fin _ fin_4741671816366391296
  have vl : val (flip 4741671816366391296) = -1000000000 := by rw [flip_val _ (by decide), val_4741671816366391296]
  obtain ⟨fr, r1, r2⟩ := finite_between q0 fl fin_4741671816366391296 h0.1 h0.2
  obtain ⟨fg, g1, g2⟩ := finite_between q1 fl fin_4741671816366391296 h1.1 h1.2
  obtain ⟨fb, b1, b2⟩ := finite_between q2 fl fin_4741671816366391296 h2.1 h2.2
  rw [vl] at r1 g1 b1
  rw [val_4741671816366391296] at r2 g2 b2
  obtain ⟨far, r3, r4, r5, r6⟩ := absW_ok fr
  obtain ⟨fag, g3, g4, g5, g6⟩ := absW_ok fg
  obtain ⟨fab, b3, b4, b5, b6⟩ := absW_ok fb
  have r7 : val (absW r) ≤ 1000000000 := by grind
  have g7 : val (absW g) ≤ 1000000000 := by grind
  have b7 : val (absW b) ≤ 1000000000 := by grind
  clear h0 h1 h2 fl vl r1 r2 g1 g2 b1 b2 r6 g6 b6
  generalize absW r = R at *
  generalize absW g = G at *
  generalize absW b = B at *
  obtain ⟨m, hm⟩ : ∃ m, m = val R + val G + val B := ⟨_, rfl⟩
  have hM0 : 0 ≤ m := by grind
  have hM : m ≤ 3000000000 := by grind
  have ra : -m ≤ val r := by grind
  have rb : val r ≤ m := by grind
  have ga : -m ≤ val g := by grind
  have gb : val g ≤ m := by grind
  have ba : -m ≤ val b := by grind
  have bb : val b ≤ m := by grind
  obtain ⟨x, y, z, r', g', b', eX, eY, eZ, eR, eG, eB, fr', fg', fb', n1, n2, n3, n4, n5, n6⟩ := CoreThirteen.core r g b fr fg fb m hM ra rb ga gb ba bb
  have hp := p2_small
  obtain ⟨s1, es1, fs1, bs1⟩ := add_ok R G far fag (by grind) (by grind)
  obtain ⟨s1a, s1b⟩ := bs1 (val R + val G) (by grind) (by grind)
  unfold u at s1a s1b
  obtain ⟨s2, es2, fs2, bs2⟩ := add_ok s1 B fs1 fab (by grind) (by grind)
  obtain ⟨s2a, s2b⟩ := bs2 (2 * m) (by grind) (by grind)
  unfold u at s2a s2b
  have S1 : (999 / 1000) * m ≤ val s2 := by clear hp; grind
  have S2 : val s2 ≤ 2 * m := by clear hp; grind
  clear s1a s1b s2a s2b bs1 bs2
  obtain ⟨s3, es3, fs3, bs3⟩ := mul_ok 4502148214488346440 s2 fin_4502148214488346440 fs2 (by rw [val_4502148214488346440]; grind) (by rw [val_4502148214488346440]; grind)
  rw [val_4502148214488346440] at bs3
  obtain ⟨s3a, s3b⟩ := bs3 (4 * m) (by grind) (by grind)
  unfold u at s3a s3b
  have he : eta ≤ 1 / 10 ^ 320 := CoreThirteen.eta_small
  have he0 := eta_pos
  have T1 : (9 / 100000000) * m - eta ≤ val s3 := by clear hp; grind
  have T2 : val s3 ≤ m + eta := by clear hp; grind
  clear bs3 s3a s3b
  obtain ⟨tol, et, ft, bt⟩ := add_ok s3 118622047889322841 fs3 fin_118622047889322841 (by rw [val_118622047889322841]; grind) (by rw [val_118622047889322841]; grind)
  rw [val_118622047889322841] at bt
  obtain ⟨t2, t3⟩ := bt (val s3 + 2 * eta + 11 / 10 ^ 301) (by grind) (by grind)
  unfold u at t2 t3
  have ht : m * (1 / 20000000) + (1 / 10 ^ 305) ≤ val tol := by clear hp; grind
  obtain ⟨d0, e0, l0⟩ := close_ok r' r tol m fr' fr ft hM0 (by grind) n1 n2 ht
  obtain ⟨d1, e1, l1⟩ := close_ok g' g tol m fg' fg ft hM0 (by grind) n3 n4 ht
  obtain ⟨d2, e2, l2⟩ := close_ok b' b tol m fb' fb ft hM0 (by grind) n5 n6 ht
  exact ⟨x, y, z, r', g', b', d0, d1, d2, s1, s2, s3, tol, eX, eY, eZ, eR, eG, eB, e0, e1, e2, es1, es2, es3, et, l0, l1, l2⟩

set_option maxRecDepth 100000 in
set_option maxHeartbeats 4000000 in
/-- THE WALK -/
theorem walk (a0 : Nat) (a1 : Nat) (a2 : Nat) (w : World) (w0 : (Lit.float .f64 a0).wf = true) (w1 : (Lit.float .f64 a1).wf = true) (w2 : (Lit.float .f64 a2).wf = true) :
    Calls Try.prog 6 #[.float .f64 a0, .float .f64 a1, .float .f64 a2] w fun e w' => e = .returned (.bool true) ∧ Below w.heap.size w w' := by
  have q0 : a0 < 2 ^ 64 := by simpa [Lit.wf] using w0
  have q1 : a1 < 2 ^ 64 := by simpa [Lit.wf] using w1
  have q2 : a2 < 2 ^ 64 := by simpa [Lit.wf] using w2
  clear w0 w1 w2
  cases h0 : (geB a0 (flip 4741671816366391296) && leB a0 4741671816366391296) with
  | false =>
    go_enter Try.func6, Try.ntmps6
    go_wp2_with fail
    refine (zzIn_any a0 _ _).mono ?_
    rintro e w' ⟨rfl, rfl⟩
    rw [h0]
    clear h0 q0 q1 q2
    go_wp2
    go_ret
    exact ⟨rfl, Below.refl _ _⟩
  | true =>
    cases h1 : (geB a1 (flip 4741671816366391296) && leB a1 4741671816366391296) with
    | false =>
      go_enter Try.func6, Try.ntmps6
      go_wp2_with fail
      refine (zzIn_any a0 _ _).mono ?_
      rintro e w' ⟨rfl, rfl⟩
      rw [h0]
      go_wp2_with fail
      refine (zzIn_any a1 _ _).mono ?_
      rintro e w' ⟨rfl, rfl⟩
      rw [h1]
      clear h0 h1 q0 q1 q2
      go_wp2
      go_ret
      exact ⟨rfl, Below.refl _ _⟩
    | true =>
      cases h2 : (geB a2 (flip 4741671816366391296) && leB a2 4741671816366391296) with
      | false =>
        go_enter Try.func6, Try.ntmps6
        go_wp2_with fail
        refine (zzIn_any a0 _ _).mono ?_
        rintro e w' ⟨rfl, rfl⟩
        rw [h0]
        go_wp2_with fail
        refine (zzIn_any a1 _ _).mono ?_
        rintro e w' ⟨rfl, rfl⟩
        rw [h1]
        go_wp2_with fail
        refine (zzIn_any a2 _ _).mono ?_
        rintro e w' ⟨rfl, rfl⟩
        rw [h2]
        clear h0 h1 h2 q0 q1 q2
        go_wp2
        go_ret
        exact ⟨rfl, Below.refl _ _⟩
      | true =>
        obtain ⟨x, y, z, r', g', b', d0, d1, d2, s1, s2, s3, tol, eX, eY, eZ, eR, eG, eB, k0, k1, k2, t1, t2, t3, t4, l0, l1, l2⟩ := final a0 a1 a2 q0 q1 q2 h0 h1 h2
        have H := Lib.hid (And.intro eX (And.intro eY (And.intro eZ (And.intro eR (And.intro eG eB)))))
        have K := Lib.hid (And.intro k0 (And.intro k1 (And.intro k2 (And.intro l0 (And.intro l1 l2)))))
        clear eX eY eZ eR eG eB k0 k1 k2 l0 l1 l2
        have m1 : ∀ w, (binOp .add 22 (.float .f64 (absW a0)) (.float .f64 (absW a1))).run Try.prog w = .ok (.float .f64 s1) w := fun w => run_float_arith w .add 22 .f64 _ _ _ t1
        have m2 : ∀ w, (binOp .add 22 (.float .f64 s1) (.float .f64 (absW a2))).run Try.prog w = .ok (.float .f64 s2) w := fun w => run_float_arith w .add 22 .f64 _ _ _ t2
        have m3 : ∀ w, (binOp .mul 22 (.float .f64 4502148214488346440) (.float .f64 s2)).run Try.prog w = .ok (.float .f64 s3) w := fun w => run_float_arith w .mul 22 .f64 _ _ _ t3
        have m4 : ∀ w, (binOp .add 22 (.float .f64 s3) (.float .f64 118622047889322841)).run Try.prog w = .ok (.float .f64 tol) w := fun w => run_float_arith w .add 22 .f64 _ _ _ t4
        clear t1 t2 t3 t4
        go_enter Try.func6, Try.ntmps6
        go_wp2_with fail
        refine (zzIn_any a0 _ _).mono ?_
        rintro e w' ⟨rfl, rfl⟩
        rw [h0]
        go_wp2_with fail
        refine (zzIn_any a1 _ _).mono ?_
        rintro e w' ⟨rfl, rfl⟩
        rw [h1]
        go_wp2_with fail
        refine (zzIn_any a2 _ _).mono ?_
        rintro e w' ⟨rfl, rfl⟩
        rw [h2]
        clear h0 h1 h2
        go_wp2_with fail
        refine (ZZd65ToD50_n011_70_any a0 a1 a2 x y z (d65_to_d50_any a0 a1 a2 x y z H.out.1 H.out.2.1 H.out.2.2.1) _).mono ?_
        rintro e w1 ⟨rfl, b1⟩
        go_wp2_with fail
        refine (ZZd50ToD65_n011_70_any x y z r' g' b' (d50_to_d65_any x y z r' g' b' H.out.2.2.2.1 H.out.2.2.2.2.1 H.out.2.2.2.2.2) _).mono ?_
        rintro e w2 ⟨rfl, b2⟩
        go_wp2_with fail
        refine (zzAbs_any a0 _).mono ?_
        rintro e w' ⟨rfl, rfl⟩
        go_wp2_with fail
        refine (zzAbs_any a1 _).mono ?_
        rintro e w' ⟨rfl, rfl⟩
        go_wp2_with fail
        refine (zzAbs_any a2 _).mono ?_
        rintro e w' ⟨rfl, rfl⟩
        go_wp2_with fail
        refine (zzNear_any r' a0 tol d0 K.out.1 K.out.2.2.2.1 _).mono ?_
        rintro e w' ⟨rfl, rfl⟩
        go_wp2_with fail
        refine (zzNear_any g' a1 tol d1 K.out.2.1 K.out.2.2.2.2.1 _).mono ?_
        rintro e w' ⟨rfl, rfl⟩
        go_wp2_with fail
        refine (zzNear_any b' a2 tol d2 K.out.2.2.1 K.out.2.2.2.2.2 _).mono ?_
        rintro e w' ⟨rfl, rfl⟩
        go_wp2
        go_ret
        exact ⟨rfl, b1.trans (b2.mono b1.size)⟩

set_option maxRecDepth 100000 in
theorem lifted (os : Os) (started : os.Started) (H : Type) (enc : TypeId × Value → H) :
    ReturnsInHanded {} Try.checked os 6 .any (Rows.fnD65ToD50RoundTripSpec.pre6 enc Try.prog Try.f6 Rows.fnD65ToD50RoundTripRow.domain false) (Rows.fnD65ToD50RoundTripSpec.post enc Try.prog Try.f6 false true false false) := by
  refine returnsInHanded_of_change (C := Try.checked) own started (by kernel_rfl) Try.func6
    (ChangeSpec.witness6 (enc := enc) (C := Try.checked) false ⟨#[], #[.float .f64 0, .float .f64 0, .float .f64 0], []⟩ 8 (by kernel_rfl) (by kernel_rfl) (by kernel_rfl) (by kernel_rfl)) ?_
  intro W base args ds gs before hval0 hW hcnd _
  have hval : ∀ (j : Nat) t v, Try.f6.params[j]? = some t → args[j]? = some v → Value.okWide Try.prog W .any base t v := hval0
  have hW' := hW
  obtain ⟨p, q, hA0, hV, rfl, hfz, hnd⟩ := hW
  have hA : DataW.TrodAll enc Try.prog W 0 (fun _ => true) true Try.f6.params.toList args.toList ds p := hA0
  rw [Try.params6] at hA hval
  obtain ⟨v0, vs0, d0, ds0, p0, q0, hargs, rfl, rfl, h0, r0⟩ := trodAll_cons hA
  obtain ⟨v1, vs1, d1, ds1, p1, q1, rfl, rfl, rfl, h1, r1⟩ := trodAll_cons r0
  obtain ⟨v2, vs2, d2, ds2, p2, q2, rfl, rfl, rfl, h2, r2⟩ := trodAll_cons r1
  obtain ⟨rfl, rfl, rfl⟩ := trodAll_nil r2
  obtain rfl : args = #[v0, v1, v2] := by cases args; simp_all
  obtain ⟨rfl, rfl⟩ := trodVars_none hV
  obtain ⟨a0, rfl, rfl, rfl, w0⟩ := open_float Try.underlying22 (hval 0 22 v0 rfl rfl) h0
  obtain ⟨a1, rfl, rfl, rfl, w1⟩ := open_float Try.underlying22 (hval 1 22 v1 rfl rfl) h1
  obtain ⟨a2, rfl, rfl, rfl, w2⟩ := open_float Try.underlying22 (hval 2 22 v2 rfl rfl) h2
  clear hA0 hval0
  refine (walk a0 a1 a2 W w0 w1 w2).mono fun e W' ⟨he, bel⟩ => ?_
  subst he
  exact ⟨_, rfl, _, _, _, [], _, [], hW', trodAll_mk1 (shut_bool Try.underlying4 _), (trodAll_cons_mk (shut_float Try.underlying22 w0) (trodAll_cons_mk (shut_float Try.underlying22 w1) (trodAll_cons_mk (shut_float Try.underlying22 w2) trodAll_mk0))), rfl, bel.frame _, fun h => by cases h⟩

theorem over : Rows.fnD65ToD50RoundTripRow.holds Try.pinned (OpenSpec.ofChange Rows.fnD65ToD50RoundTripSpec) :=
  OpenClaim.holds_of_wide 6 Try.f6 rfl rfl rfl rfl rfl rfl rfl ⟨rfl, rfl, rfl, rfl, rfl⟩ rfl rfl rfl rfl rfl (by kernel_rfl) Try.func6 (by kernel_rfl)
    (of_decide_eq_true (by kernel_rfl)) (by unfold Func.isWrapper; first | (rw [if_pos (by decide +kernel)]; kernel_rfl) | (rw [if_neg (by decide +kernel)]; exact ⟨rfl, rfl⟩))
    (fun os started H enc _ => lifted os started H enc)

/-- THE STATEMENT -/
theorem proved : Rows.FnD65ToD50RoundTripSaid := over
#print axioms proved
end Go.Proofs.Ythjgigahhooilaa.fnD65ToD50RoundTrip
