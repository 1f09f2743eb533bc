/-
  For every linear display-p3 triple with each channel in the range of magnitude 1e6, lin_p3_to_xyz followed by xyz_to_lin_p3 returns the triple within 1e-9 times (1 + the greatest magnitude): the Go law FnLinP3ToXyzInvertedByXyzToLinP3 returns true for every input. No condition.
-/
import Derived.Test.YthjgigahhooilaaRows
import Derived.WalkKit
import Derived.ProofKit
import Derived.OpenShut
import Derived.ShutString
import Derived.ChangeOld
import Derived.Below
import Derived.Lib.Hide
import Derived.Outline
import Derived.Laws.Cover2
import Derived.Test.YthjgigahhooilaaWrap
import Derived.Test.YthjgigahhooilaaCoreTwelve
namespace Go.Proofs.Ythjgigahhooilaa.fnLinP3ToXyzInvertedByXyzToLinP3
open Go.ChangeShapes Go.WideShapes Go.ChangeAt Go.RowKit
open Go.ChangeMaps (open_string shut_string)
set_option linter.unusedVariables false

theorem own : ownKnob Try.prog.godebug = none := by kernel_rfl
theorem laidOut : laidOutB Try.prog = true := by kernel_rfl

open FL Mat
theorem run_neg (x : Nat) (w : World) : (Op.unary .neg (.float .f64 x)).run Try.prog w = .ok (.float .f64 (flip x)) w := rfl
set_option maxHeartbeats 400000 in
theorem zzIn_any (x lo hi : Nat) (w : World) : Calls Try.prog 16 #[.float .f64 x, .float .f64 lo, .float .f64 hi] w fun e w' => e = .returned (.bool (geB x lo && leB x hi)) ∧ w = w' := by
  cases h1 : FloatKind.f64.format.order x lo with
  | none =>
    have g : geB x lo = false := by unfold geB; rw [show Ieee.double.order x lo = none from h1]; rfl
    rw [g]
    go_enter Try.func16, Try.ntmps16
    go_wp2
    go_ret
    exact ⟨rfl, rfl⟩
  | some o =>
    cases o
    · have g : geB x lo = false := by unfold geB; rw [show Ieee.double.order x lo = some .lt from h1]; rfl
      rw [g]
      go_enter Try.func16, Try.ntmps16
      go_wp2
      go_ret
      exact ⟨rfl, rfl⟩
    · have g : geB x lo = true := by unfold geB; rw [show Ieee.double.order x lo = some .eq from h1]; rfl
      rw [g]
      go_enter Try.func16, Try.ntmps16
      go_wp2
      go_ret
      exact ⟨rfl, rfl⟩
    · have g : geB x lo = true := by unfold geB; rw [show Ieee.double.order x lo = some .gt from h1]; rfl
      rw [g]
      go_enter Try.func16, Try.ntmps16
      go_wp2
      go_ret
      exact ⟨rfl, rfl⟩
set_option maxHeartbeats 400000 in
theorem zzAbs_any (x : Nat) (w : World) : Calls Try.prog 38 #[.float .f64 x] w fun e w' => e = .returned (.float .f64 (absW x)) ∧ w = w' := by
  cases h1 : ltB x 0 with
  | false =>
    have g : absW x = x := by unfold absW; rw [h1]; rfl
    have h2 : (FloatKind.f64.format.order x 0 == some .lt) = false := h1
    rw [g]
    clear h1
    go_enter Try.func38, Try.ntmps38
    go_wp2
    go_ret
    exact ⟨rfl, rfl⟩
  | true =>
    have g : absW x = flip x := by unfold absW; rw [h1]; rfl
    have hn := fun w => run_neg x w
    have h2 : (FloatKind.f64.format.order x 0 == some .lt) = true := h1
    rw [g]
    clear h1
    go_enter Try.func38, Try.ntmps38
    go_wp2
    go_ret
    exact ⟨rfl, rfl⟩

def maxW (a b : Nat) : Nat := if gtB b a then b else a
theorem maxW_ok {a b : Nat} (ha : Finite a) (hb : Finite b) : Finite (maxW a b) ∧ val a ≤ val (maxW a b) ∧ val b ≤ val (maxW a b) ∧ (val (maxW a b) = val a ∨ val (maxW a b) = val b) := by
  unfold maxW
  rw [gtB_ok hb ha]
  by_cases h : val a < val b
  · rw [decide_eq_true h, if_pos rfl]
    exact ⟨hb, Rat.le_of_lt h, Rat.le_refl, .inr rfl⟩
  · rw [decide_eq_false h, if_neg (by decide)]
    exact ⟨ha, Rat.le_refl, by grind, .inl rfl⟩
set_option maxHeartbeats 1000000 in
theorem zzMax_any (x y z : Nat) (w : World) : Calls Try.prog 19 #[.float .f64 x, .float .f64 y, .float .f64 z] w fun e w' => e = .returned (.float .f64 (maxW (maxW (absW x) (absW y)) (absW z))) ∧ w = w' := by
  cases h1 : gtB (absW y) (absW x) with
  | false =>
    have e1 : maxW (absW x) (absW y) = absW x := by unfold maxW; rw [h1]; rfl
    have t1 : (FloatKind.f64.format.order (absW y) (absW x) == some .gt) = false := h1
    rw [e1]
    clear h1 e1
    cases h2 : gtB (absW z) (absW x) with
    | false =>
      have e2 : maxW (absW x) (absW z) = absW x := by unfold maxW; rw [h2]; rfl
      have t2 : (FloatKind.f64.format.order (absW z) (absW x) == some .gt) = false := h2
      rw [e2]
      clear h2 e2
      go_enter Try.func19, Try.ntmps19
      go_wp2_with fail
      refine (zzAbs_any x _).mono ?_
      rintro e w' ⟨rfl, rfl⟩
      go_wp2_with fail
      refine (zzAbs_any y _).mono ?_
      rintro e w' ⟨rfl, rfl⟩
      go_wp2_with fail
      refine (zzAbs_any z _).mono ?_
      rintro e w' ⟨rfl, rfl⟩
      go_wp2
      go_ret
      exact ⟨rfl, rfl⟩
    | true =>
      have e2 : maxW (absW x) (absW z) = absW z := by unfold maxW; rw [h2]; rfl
      have t2 : (FloatKind.f64.format.order (absW z) (absW x) == some .gt) = true := h2
      rw [e2]
      clear h2 e2
      go_enter Try.func19, Try.ntmps19
      go_wp2_with fail
      refine (zzAbs_any x _).mono ?_
      rintro e w' ⟨rfl, rfl⟩
      go_wp2_with fail
      refine (zzAbs_any y _).mono ?_
      rintro e w' ⟨rfl, rfl⟩
      go_wp2_with fail
      refine (zzAbs_any z _).mono ?_
      rintro e w' ⟨rfl, rfl⟩
      go_wp2_with fail
      refine (zzAbs_any z _).mono ?_
      rintro e w' ⟨rfl, rfl⟩
      go_wp2
      go_ret
      exact ⟨rfl, rfl⟩
  | true =>
    have e1 : maxW (absW x) (absW y) = absW y := by unfold maxW; rw [h1]; rfl
    have t1 : (FloatKind.f64.format.order (absW y) (absW x) == some .gt) = true := h1
    rw [e1]
    clear h1 e1
    cases h2 : gtB (absW z) (absW y) with
    | false =>
      have e2 : maxW (absW y) (absW z) = absW y := by unfold maxW; rw [h2]; rfl
      have t2 : (FloatKind.f64.format.order (absW z) (absW y) == some .gt) = false := h2
      rw [e2]
      clear h2 e2
      go_enter Try.func19, Try.ntmps19
      go_wp2_with fail
      refine (zzAbs_any x _).mono ?_
      rintro e w' ⟨rfl, rfl⟩
      go_wp2_with fail
      refine (zzAbs_any y _).mono ?_
      rintro e w' ⟨rfl, rfl⟩
      go_wp2_with fail
      refine (zzAbs_any y _).mono ?_
      rintro e w' ⟨rfl, rfl⟩
      go_wp2_with fail
      refine (zzAbs_any z _).mono ?_
      rintro e w' ⟨rfl, rfl⟩
      go_wp2
      go_ret
      exact ⟨rfl, rfl⟩
    | true =>
      have e2 : maxW (absW y) (absW z) = absW z := by unfold maxW; rw [h2]; rfl
      have t2 : (FloatKind.f64.format.order (absW z) (absW y) == some .gt) = true := h2
      rw [e2]
      clear h2 e2
      go_enter Try.func19, Try.ntmps19
      go_wp2_with fail
      refine (zzAbs_any x _).mono ?_
      rintro e w' ⟨rfl, rfl⟩
      go_wp2_with fail
      refine (zzAbs_any y _).mono ?_
      rintro e w' ⟨rfl, rfl⟩
      go_wp2_with fail
      refine (zzAbs_any y _).mono ?_
      rintro e w' ⟨rfl, rfl⟩
      go_wp2_with fail
      refine (zzAbs_any z _).mono ?_
      rintro e w' ⟨rfl, rfl⟩
      go_wp2_with fail
      refine (zzAbs_any z _).mono ?_
      rintro e w' ⟨rfl, rfl⟩
      go_wp2
      go_ret
      exact ⟨rfl, rfl⟩
set_option maxHeartbeats 400000 in
theorem zzClose_any (a b t d : Nat) (hs : Ieee.double.sub a b = some d) (hle : leB (absW d) t = true) (w : World) : Calls Try.prog 20 #[.float .f64 a, .float .f64 b, .float .f64 t] w fun e w' => e = .returned (.bool true) ∧ w = w' := by
  have hm : ∀ w, (binOp .sub 22 (.float .f64 a) (.float .f64 b)).run Try.prog w = .ok (.float .f64 d) w := fun w => run_float_arith w .sub 22 .f64 a b d hs
  clear hs
  cases h1 : ltB d 0 with
  | false =>
    have g : absW d = d := by unfold absW; rw [h1]; rfl
    have h2 : (FloatKind.f64.format.order d 0 == some .lt) = false := h1
    rw [g] at hle
    have h3 : (FloatKind.f64.format.order d t == some .lt || FloatKind.f64.format.order d t == some .eq) = true := hle
    clear h1 hle g
    go_enter Try.func20, Try.ntmps20
    go_wp2
    go_ret
    exact ⟨rfl, rfl⟩
  | true =>
    have g : absW d = flip d := by unfold absW; rw [h1]; rfl
    have h2 : (FloatKind.f64.format.order d 0 == some .lt) = true := h1
    have hn := fun w => run_neg d w
    rw [g] at hle
    have h3 : (FloatKind.f64.format.order (flip d) t == some .lt || FloatKind.f64.format.order (flip d) t == some .eq) = true := hle
    clear h1 hle g
    go_enter Try.func20, Try.ntmps20
    go_wp2
    go_ret
    exact ⟨rfl, rfl⟩
theorem val_13920209183539462144 : FL.val 13920209183539462144 = (-1000000 : Rat) := by decide +kernel
theorem fin_13920209183539462144 : FL.Finite 13920209183539462144 := by decide +kernel
theorem val_4696837146684686336 : FL.val 4696837146684686336 = (1000000 : Rat) := by decide +kernel
theorem fin_4696837146684686336 : FL.Finite 4696837146684686336 := by decide +kernel
theorem val_4607182418800017408 : FL.val 4607182418800017408 = (1 : Rat) := by decide +kernel
theorem fin_4607182418800017408 : FL.Finite 4607182418800017408 := by decide +kernel
theorem val_4472406533629990549 : FL.val 4472406533629990549 = (4835703278458517 : Rat) / 4835703278458516698824704 := by decide +kernel
theorem fin_4472406533629990549 : FL.Finite 4472406533629990549 := by decide +kernel

theorem p2_small : (1000000000000 : Rat) < p2 1023 := by
  have := p2_big
  have : (1000000000000 : Rat) ≤ 2 ^ 1000 := by decide +kernel
  grind
theorem row_same (a b c x y z : Nat) : FL.row3 a b c x y z = Mat.row3 a b c x y z := rfl
/-- the distance of two words, and that the test against the tolerance holds -/
theorem close_ok (r' r tol : Nat) (m : Rat) (fr' : Finite r') (fr : Finite r) (ft : Finite tol) (hm0 : 0 ≤ m) (hm : m ≤ 1000000) (h1 : -m ≤ val r) (h2 : val r ≤ m)
    (h3 : -((m + 1) / 1000000000000) ≤ val r' - val r) (h4 : val r' - val r ≤ (m + 1) / 1000000000000) (ht : (m + 1) / 2000000000 ≤ val tol) :
    ∃ d, Ieee.double.sub r' r = some d ∧ leB (absW d) tol = true := by
  have hp := p2_small
  obtain ⟨d, e, fd, bd⟩ := sub_ok r' r fr' fr (by grind) (by grind)
  obtain ⟨d1, d2⟩ := bd ((m + 1) / 1000000000000) h3 h4
  unfold u at d1 d2
  obtain ⟨fa, -, -, -, hv⟩ := absW_ok fd
  refine ⟨d, e, ?_⟩
  rw [leB_ok fa ft]
  clear hp bd
  rcases hv with hv | hv <;> rw [hv] <;> simp <;> grind
theorem final (r g b : Nat) (q0 : r < 2 ^ 64) (q1 : g < 2 ^ 64) (q2 : b < 2 ^ 64)
    (h0 : (geB r 13920209183539462144 && leB r 4696837146684686336) = true) (h1 : (geB g 13920209183539462144 && leB g 4696837146684686336) = true) (h2 : (geB b 13920209183539462144 && leB b 4696837146684686336) = true) :
    ∃ x y z r' g' b' d0 d1 d2 tol s1, Mat.row3 4602436902889991582 4598457463613748745 4596309550625894354 r g b = some x ∧ Mat.row3 4597417698381910165 4604405846243637830 4590377644931452072 r g b = some y ∧ Mat.row3 0 4586662344547128081 4607380326643424874 r g b = some z ∧
      Mat.row3 4612797274681751849 13829936414229251323 13824298249327843042 x y z = some r' ∧ Mat.row3 13829018628828503116 4610617152377875984 4582466573495113356 x y z = some g' ∧ Mat.row3 4585326749603112614 13813525256620716304 4606794069116791646 x y z = some b' ∧
      Ieee.double.sub r' r = some d0 ∧ Ieee.double.sub g' g = some d1 ∧ Ieee.double.sub b' b = some d2 ∧
      floatBits .add .f64 4607182418800017408 (maxW (maxW (absW r) (absW g)) (absW b)) = some s1 ∧ floatBits .mul .f64 4472406533629990549 s1 = some tol ∧
      leB (absW d0) tol = true ∧ leB (absW d1) tol = true ∧ leB (absW d2) tol = true := by
  simp only [Bool.and_eq_true] at h0 h1 h2
  obtain ⟨fr, r1, r2⟩ := finite_between q0 fin_13920209183539462144 fin_4696837146684686336 h0.1 h0.2
  obtain ⟨fg, g1, g2⟩ := finite_between q1 fin_13920209183539462144 fin_4696837146684686336 h1.1 h1.2
  obtain ⟨fb, b1, b2⟩ := finite_between q2 fin_13920209183539462144 fin_4696837146684686336 h2.1 h2.2
  rw [val_13920209183539462144] at r1 g1 b1
  rw [val_4696837146684686336] at r2 g2 b2
  obtain ⟨far, r3, r4, r5, r6⟩ := absW_ok fr
  obtain ⟨fag, g3, g4, g5, g6⟩ := absW_ok fg
  obtain ⟨fab, b3, b4, b5, b6⟩ := absW_ok fb
  obtain ⟨fm, m1, m2, m3⟩ := maxW_ok far fag
  obtain ⟨fM, M1, M2, M3⟩ := maxW_ok fm fab
  generalize maxW (maxW (absW r) (absW g)) (absW b) = M at *
  generalize maxW (absW r) (absW g) = M' at *
  have hM0 : 0 ≤ val M := by grind
  have hM : val M ≤ 1000000 := by grind
  have ra : -val M ≤ val r := by grind
  have rb : val r ≤ val M := by grind
  have ga : -val M ≤ val g := by grind
  have gb : val g ≤ val M := by grind
  have ba : -val M ≤ val b := by grind
  have bb : val b ≤ val M := by grind
  clear m1 m2 m3 M1 M2 M3 r3 r4 r5 r6 g3 g4 g5 g6 b3 b4 b5 b6 r1 r2 g1 g2 b1 b2
  obtain ⟨x, y, z, r', g', b', eX, eY, eZ, eR, eG, eB, fr', fg', fb', n1, n2, n3, n4, n5, n6⟩ := CoreTwelve.core r g b fr fg fb (val M) hM ra rb ga gb ba bb
  have hp := p2_small
  obtain ⟨s1, es, fs, bs⟩ := add_ok 4607182418800017408 M fin_4607182418800017408 fM (by rw [val_4607182418800017408]; grind) (by rw [val_4607182418800017408]; grind)
  rw [val_4607182418800017408] at bs
  obtain ⟨s2, s3⟩ := bs (1 + val M) (by grind) (by grind)
  unfold u at s2 s3
  clear bs
  have S1 : (999 / 1000) * (1 + val M) ≤ val s1 := by clear hp; grind
  have S2 : val s1 ≤ 2 * (1 + val M) := by clear hp; grind
  obtain ⟨tol, et, ft, bt⟩ := mul_ok 4472406533629990549 s1 fin_4472406533629990549 fs (by rw [val_4472406533629990549]; grind) (by rw [val_4472406533629990549]; grind)
  rw [val_4472406533629990549] at bt
  obtain ⟨t2, t3⟩ := bt (4 * (1 + val M)) (by grind) (by grind)
  unfold u at t2 t3
  have he : eta ≤ 1 / 10 ^ 300 := CoreTwelve.eta_small
  have he0 := eta_pos
  have ht : (val M + 1) / 2000000000 ≤ val tol := by clear hp s2 s3; grind
  obtain ⟨d0, e0, l0⟩ := close_ok r' r tol (val M) fr' fr ft hM0 hM ra rb n1 n2 ht
  obtain ⟨d1, e1, l1⟩ := close_ok g' g tol (val M) fg' fg ft hM0 hM ga gb n3 n4 ht
  obtain ⟨d2, e2, l2⟩ := close_ok b' b tol (val M) fb' fb ft hM0 hM ba bb n5 n6 ht
  exact ⟨x, y, z, r', g', b', d0, d1, d2, tol, s1, eX, eY, eZ, eR, eG, eB, e0, e1, e2, es, et, l0, l1, l2⟩

set_option maxRecDepth 100000 in
set_option maxHeartbeats 4000000 in
/-- THE WALK -/
theorem walk (a0 : Nat) (a1 : Nat) (a2 : Nat) (w : World) (w0 : (Lit.float .f64 a0).wf = true) (w1 : (Lit.float .f64 a1).wf = true) (w2 : (Lit.float .f64 a2).wf = true) :
    Calls Try.prog 5 #[.float .f64 a0, .float .f64 a1, .float .f64 a2] w fun e w' => e = .returned (.bool true) ∧ Below w.heap.size w w' := by
  have q0 : a0 < 2 ^ 64 := by simpa [Lit.wf] using w0
  have q1 : a1 < 2 ^ 64 := by simpa [Lit.wf] using w1
  have q2 : a2 < 2 ^ 64 := by simpa [Lit.wf] using w2
  clear w0 w1 w2
  cases h0 : (geB a0 13920209183539462144 && leB a0 4696837146684686336) with
  | false =>
    go_enter Try.func5, Try.ntmps5
    go_wp2_with fail
    refine (zzIn_any a0 _ _ _).mono ?_
    rintro e w' ⟨rfl, rfl⟩
    rw [h0]
    clear h0 q0 q1 q2
    go_wp2
    go_ret
    exact ⟨rfl, Below.refl _ _⟩
  | true =>
    cases h1 : (geB a1 13920209183539462144 && leB a1 4696837146684686336) with
    | false =>
      go_enter Try.func5, Try.ntmps5
      go_wp2_with fail
      refine (zzIn_any a0 _ _ _).mono ?_
      rintro e w' ⟨rfl, rfl⟩
      rw [h0]
      go_wp2_with fail
      refine (zzIn_any a1 _ _ _).mono ?_
      rintro e w' ⟨rfl, rfl⟩
      rw [h1]
      clear h0 h1 q0 q1 q2
      go_wp2
      go_ret
      exact ⟨rfl, Below.refl _ _⟩
    | true =>
      cases h2 : (geB a2 13920209183539462144 && leB a2 4696837146684686336) with
      | false =>
        go_enter Try.func5, Try.ntmps5
        go_wp2_with fail
        refine (zzIn_any a0 _ _ _).mono ?_
        rintro e w' ⟨rfl, rfl⟩
        rw [h0]
        go_wp2_with fail
        refine (zzIn_any a1 _ _ _).mono ?_
        rintro e w' ⟨rfl, rfl⟩
        rw [h1]
        go_wp2_with fail
        refine (zzIn_any a2 _ _ _).mono ?_
        rintro e w' ⟨rfl, rfl⟩
        rw [h2]
        clear h0 h1 h2 q0 q1 q2
        go_wp2
        go_ret
        exact ⟨rfl, Below.refl _ _⟩
      | true =>
        obtain ⟨x, y, z, r', g', b', d0, d1, d2, tol, s1, eX, eY, eZ, eR, eG, eB, k0, k1, k2, t1, t2, l0, l1, l2⟩ := final a0 a1 a2 q0 q1 q2 h0 h1 h2
        have H := Lib.hid (And.intro eX (And.intro eY (And.intro eZ (And.intro eR (And.intro eG eB)))))
        have K := Lib.hid (And.intro k0 (And.intro k1 (And.intro k2 (And.intro l0 (And.intro l1 l2)))))
        clear eX eY eZ eR eG eB k0 k1 k2 l0 l1 l2
        have m1 : ∀ w, (binOp .add 22 (.float .f64 4607182418800017408) (.float .f64 (maxW (maxW (absW a0) (absW a1)) (absW a2)))).run Try.prog w = .ok (.float .f64 s1) w := fun w => run_float_arith w .add 22 .f64 _ _ _ t1
        have m2 : ∀ w, (binOp .mul 22 (.float .f64 4472406533629990549) (.float .f64 s1)).run Try.prog w = .ok (.float .f64 tol) w := fun w => run_float_arith w .mul 22 .f64 _ _ _ t2
        clear t1 t2
        go_enter Try.func5, Try.ntmps5
        go_wp2_with fail
        refine (zzIn_any a0 _ _ _).mono ?_
        rintro e w' ⟨rfl, rfl⟩
        rw [h0]
        go_wp2_with fail
        refine (zzIn_any a1 _ _ _).mono ?_
        rintro e w' ⟨rfl, rfl⟩
        rw [h1]
        go_wp2_with fail
        refine (zzIn_any a2 _ _ _).mono ?_
        rintro e w' ⟨rfl, rfl⟩
        rw [h2]
        clear h0 h1 h2
        go_wp2_with fail
        refine (ZZlinP3ToXyz_n011_225_any a0 a1 a2 x y z (lin_p3_to_xyz_any a0 a1 a2 x y z H.out.1 H.out.2.1 H.out.2.2.1) _).mono ?_
        rintro e w1 ⟨rfl, b1⟩
        go_wp2_with fail
        refine (ZZxyzToLinP3_n011_225_any x y z r' g' b' (xyz_to_lin_p3_any x y z r' g' b' H.out.2.2.2.1 H.out.2.2.2.2.1 H.out.2.2.2.2.2) _).mono ?_
        rintro e w2 ⟨rfl, b2⟩
        go_wp2_with fail
        refine (zzMax_any a0 a1 a2 _).mono ?_
        rintro e w' ⟨rfl, rfl⟩
        go_wp2_with fail
        refine (zzClose_any r' a0 tol d0 K.out.1 K.out.2.2.2.1 _).mono ?_
        rintro e w' ⟨rfl, rfl⟩
        go_wp2_with fail
        refine (zzClose_any g' a1 tol d1 K.out.2.1 K.out.2.2.2.2.1 _).mono ?_
        rintro e w' ⟨rfl, rfl⟩
        go_wp2_with fail
        refine (zzClose_any b' a2 tol d2 K.out.2.2.1 K.out.2.2.2.2.2 _).mono ?_
        rintro e w' ⟨rfl, rfl⟩
        go_wp2
        go_ret
        exact ⟨rfl, b1.trans (b2.mono b1.size)⟩

set_option maxRecDepth 100000 in
theorem lifted (os : Os) (started : os.Started) (H : Type) (enc : TypeId × Value → H) :
    ReturnsInHanded {} Try.checked os 5 .any (Rows.fnLinP3ToXyzInvertedByXyzToLinP3Spec.pre6 enc Try.prog Try.f5 Rows.fnLinP3ToXyzInvertedByXyzToLinP3Row.domain false) (Rows.fnLinP3ToXyzInvertedByXyzToLinP3Spec.post enc Try.prog Try.f5 false true false false) := by
  refine returnsInHanded_of_change (C := Try.checked) own started (by kernel_rfl) Try.func5
    (ChangeSpec.witness6 (enc := enc) (C := Try.checked) false ⟨#[], #[.float .f64 0, .float .f64 0, .float .f64 0], []⟩ 8 (by kernel_rfl) (by kernel_rfl) (by kernel_rfl) (by kernel_rfl)) ?_
  intro W base args ds gs before hval0 hW hcnd _
  have hval : ∀ (j : Nat) t v, Try.f5.params[j]? = some t → args[j]? = some v → Value.okWide Try.prog W .any base t v := hval0
  have hW' := hW
  obtain ⟨p, q, hA0, hV, rfl, hfz, hnd⟩ := hW
  have hA : DataW.TrodAll enc Try.prog W 0 (fun _ => true) true Try.f5.params.toList args.toList ds p := hA0
  rw [Try.params5] at hA hval
  obtain ⟨v0, vs0, d0, ds0, p0, q0, hargs, rfl, rfl, h0, r0⟩ := trodAll_cons hA
  obtain ⟨v1, vs1, d1, ds1, p1, q1, rfl, rfl, rfl, h1, r1⟩ := trodAll_cons r0
  obtain ⟨v2, vs2, d2, ds2, p2, q2, rfl, rfl, rfl, h2, r2⟩ := trodAll_cons r1
  obtain ⟨rfl, rfl, rfl⟩ := trodAll_nil r2
  obtain rfl : args = #[v0, v1, v2] := by cases args; simp_all
  obtain ⟨rfl, rfl⟩ := trodVars_none hV
  obtain ⟨a0, rfl, rfl, rfl, w0⟩ := open_float Try.underlying22 (hval 0 22 v0 rfl rfl) h0
  obtain ⟨a1, rfl, rfl, rfl, w1⟩ := open_float Try.underlying22 (hval 1 22 v1 rfl rfl) h1
  obtain ⟨a2, rfl, rfl, rfl, w2⟩ := open_float Try.underlying22 (hval 2 22 v2 rfl rfl) h2
  clear hA0 hval0
  refine (walk a0 a1 a2 W w0 w1 w2).mono fun e W' ⟨he, bel⟩ => ?_
  subst he
  exact ⟨_, rfl, _, _, _, [], _, [], hW', trodAll_mk1 (shut_bool Try.underlying4 _), (trodAll_cons_mk (shut_float Try.underlying22 w0) (trodAll_cons_mk (shut_float Try.underlying22 w1) (trodAll_cons_mk (shut_float Try.underlying22 w2) trodAll_mk0))), rfl, bel.frame _, fun h => by cases h⟩

theorem over : Rows.fnLinP3ToXyzInvertedByXyzToLinP3Row.holds Try.pinned (OpenSpec.ofChange Rows.fnLinP3ToXyzInvertedByXyzToLinP3Spec) :=
  OpenClaim.holds_of_wide 5 Try.f5 rfl rfl rfl rfl rfl rfl rfl ⟨rfl, rfl, rfl, rfl, rfl⟩ rfl rfl rfl rfl rfl (by kernel_rfl) Try.func5 (by kernel_rfl)
    (of_decide_eq_true (by kernel_rfl)) (by unfold Func.isWrapper; first | (rw [if_pos (by decide +kernel)]; kernel_rfl) | (rw [if_neg (by decide +kernel)]; exact ⟨rfl, rfl⟩))
    (fun os started H enc _ => lifted os started H enc)

/-- THE STATEMENT -/
theorem proved : Rows.FnLinP3ToXyzInvertedByXyzToLinP3Said := over
#print axioms proved
end Go.Proofs.Ythjgigahhooilaa.fnLinP3ToXyzInvertedByXyzToLinP3
