/-
  Premise: c is finite with magnitude at most 1e6. The XYZ point c times the D65 white maps under xyz_to_lin_a98rgb to (c, c, c) within 1e-5 times (1 + the magnitude of c): the Go law FnXyzToLinA98rgbSendsD65GrayToEqualChannels returns true for every input. No condition beyond the law's own.
-/
import Derived.Test.YthjgigahhooilaaRows
import Derived.WalkKit
import Derived.ProofKit
import Derived.OpenShut
import Derived.ShutString
import Derived.ChangeOld
import Derived.Below
import Derived.Lib.Hide
import Derived.Outline
import Derived.Laws.Cover2
import Derived.Test.YthjgigahhooilaaWrap
import Derived.Test.YthjgigahhooilaaFLB
namespace Go.Proofs.Ythjgigahhooilaa.fnXyzToLinA98rgbSendsD65GrayToEqualChannels
open Go.ChangeShapes Go.WideShapes Go.ChangeAt Go.RowKit
open Go.ChangeMaps (open_string shut_string)
set_option linter.unusedVariables false

theorem own : ownKnob Try.prog.godebug = none := by kernel_rfl
theorem laidOut : laidOutB Try.prog = true := by kernel_rfl

open FL Mat
theorem run_neg (x : Nat) (w : World) : (Op.unary .neg (.float .f64 x)).run Try.prog w = .ok (.float .f64 (flip x)) w := rfl
/-- an invalid operation gives some NaN, which the tape names -/
def nanAt (w : World) (x y : Nat) : Nat := Question.cut (.nanBits .f64 x y) (w.tape w.drawn (.nanBits .f64 x y))
theorem nanAt_nan (w : World) (x y : Nat) : NaN (nanAt w x y) := nan_cut _
theorem run_float_nan {P : Program} (op : BinOp) (hop : op = .add ∨ op = .sub ∨ op = .mul ∨ op = .quo) (t : TypeId) (x y : Nat) (h : floatBits op .f64 x y = none) (w : World) : (binOp op t (.float .f64 x) (.float .f64 y)).run P w = .ok (.float .f64 (nanAt w x y)) w.drew := by
  rcases hop with rfl | rfl | rfl | rfl <;> simp only [floatBits] at h <;> simp [binOp, Op.floatArith, h, Question.forced, nanAt]
set_option maxHeartbeats 400000 in
theorem zzAbs_any (x : Nat) (w : World) : Calls Try.prog 10 #[.float .f64 x] w fun e w' => e = .returned (.float .f64 (absW x)) ∧ w = w' := by
  cases h1 : ltB x 0 with
  | false =>
    have g : absW x = x := by unfold absW; rw [h1]; rfl
    have h2 : (FloatKind.f64.format.order x 0 == some .lt) = false := h1
    rw [g]
    clear h1
    go_enter Try.func10, Try.ntmps10
    go_wp2
    go_ret
    exact ⟨rfl, rfl⟩
  | true =>
    have g : absW x = flip x := by unfold absW; rw [h1]; rfl
    have hn := fun w => run_neg x w
    have h2 : (FloatKind.f64.format.order x 0 == some .lt) = true := h1
    rw [g]
    clear h1
    go_enter Try.func10, Try.ntmps10
    go_wp2
    go_ret
    exact ⟨rfl, rfl⟩
set_option maxHeartbeats 400000 in
theorem fin_yes (x : Nat) (h : Finite x) (w : World) : Calls Try.prog 9 #[.float .f64 x] w fun e w' => e = .returned (.bool true) ∧ Below w.heap.size w w' := by
  have o1 : FloatKind.f64.format.order x x = some .eq := order_self (.inl h)
  obtain ⟨d, hd, fd, vd⟩ := fin_sub_self h
  have hm : ∀ w, (binOp .sub 22 (.float .f64 x) (.float .f64 x)).run Try.prog w = .ok (.float .f64 d) w := fun w => run_float_arith w .sub 22 .f64 x x d hd
  have o2 : FloatKind.f64.format.order d 0 = some .eq := by
    have := order_ok d 0 fd fin_zero
    rw [vd, val_zero, if_neg Rat.lt_irrefl, if_pos rfl] at this
    exact this
  clear hd fd vd h
  go_enter Try.func9, Try.ntmps9
  go_wp2
  go_ret
  exact ⟨rfl, Below.refl _ _⟩
set_option maxHeartbeats 400000 in
theorem fin_inf (x : Nat) (h : Inf x) (w : World) : Calls Try.prog 9 #[.float .f64 x] w fun e w' => e = .returned (.bool false) ∧ Below w.heap.size w w' := by
  have o1 : FloatKind.f64.format.order x x = some .eq := order_self (.inr h)
  have hm : ∀ w, (binOp .sub 22 (.float .f64 x) (.float .f64 x)).run Try.prog w = .ok (.float .f64 (nanAt w x x)) w.drew := fun w => run_float_nan .sub (.inr (.inl rfl)) 22 x x (inf_sub_self h) w
  have o2 : ∀ w, FloatKind.f64.format.order (nanAt w x x) 0 = none := fun w => nan_order_l (nanAt_nan w x x) 0
  clear h
  go_enter Try.func9, Try.ntmps9
  go_wp2
  go_ret
  exact ⟨rfl, (Below.refl _ _).drew⟩
set_option maxHeartbeats 400000 in
theorem fin_nan (x : Nat) (h : NaN x) (w : World) : Calls Try.prog 9 #[.float .f64 x] w fun e w' => e = .returned (.bool false) ∧ Below w.heap.size w w' := by
  have o1 : FloatKind.f64.format.order x x = none := nan_order_l h x
  clear h
  go_enter Try.func9, Try.ntmps9
  go_wp2
  go_ret
  exact ⟨rfl, Below.refl _ _⟩
set_option maxHeartbeats 400000 in
theorem zzNear_any (a b t d : Nat) (hs : floatBits .sub .f64 a b = some d) (hle : leB (absW d) t = true) (w : World) : Calls Try.prog 12 #[.float .f64 a, .float .f64 b, .float .f64 t] w fun e w' => e = .returned (.bool true) ∧ w = w' := by
  have hm : ∀ w, (binOp .sub 22 (.float .f64 a) (.float .f64 b)).run Try.prog w = .ok (.float .f64 d) w := fun w => run_float_arith w .sub 22 .f64 a b d hs
  clear hs
  cases h1 : ltB d 0 with
  | false =>
    have g : absW d = d := by unfold absW; rw [h1]; rfl
    have h2 : (FloatKind.f64.format.order d 0 == some .lt) = false := h1
    rw [g] at hle
    have h3 : (FloatKind.f64.format.order d t == some .lt || FloatKind.f64.format.order d t == some .eq) = true := hle
    clear h1 hle g
    go_enter Try.func12, Try.ntmps12
    go_wp2
    go_ret
    exact ⟨rfl, rfl⟩
  | true =>
    have g : absW d = flip d := by unfold absW; rw [h1]; rfl
    have h2 : (FloatKind.f64.format.order d 0 == some .lt) = true := h1
    have hn := fun w => run_neg d w
    rw [g] at hle
    have h3 : (FloatKind.f64.format.order (flip d) t == some .lt || FloatKind.f64.format.order (flip d) t == some .eq) = true := hle
    clear h1 hle g
    go_enter Try.func12, Try.ntmps12
    go_wp2
    go_ret
    exact ⟨rfl, rfl⟩
theorem val_4696837146684686336 : FL.val 4696837146684686336 = (1000000 : Rat) := by decide +kernel
theorem fin_4696837146684686336 : FL.Finite 4696837146684686336 := by decide +kernel
theorem val_4607182418800017408 : FL.val 4607182418800017408 = (1 : Rat) := by decide +kernel
theorem fin_4607182418800017408 : FL.Finite 4607182418800017408 := by decide +kernel
theorem val_4532020583610935537 : FL.val 4532020583610935537 = (5902958103587057 : Rat) / 590295810358705651712 := by decide +kernel
theorem fin_4532020583610935537 : FL.Finite 4532020583610935537 := by decide +kernel
theorem val_4606736165463080392 : FL.val 4606736165463080392 = (1070118239725497 : Rat) / 1125899906842624 := by decide +kernel
theorem fin_4606736165463080392 : FL.Finite 4606736165463080392 := by decide +kernel
theorem val_4607583499253154051 : FL.val 4607583499253154051 = (4904680080507139 : Rat) / 4503599627370496 := by decide +kernel
theorem fin_4607583499253154051 : FL.Finite 4607583499253154051 := by decide +kernel
theorem val_4611779666061440502 : FL.val 4611779666061440502 = (2298623630711547 : Rat) / 1125899906842624 := by decide +kernel
theorem fin_4611779666061440502 : FL.Finite 4611779666061440502 := by decide +kernel
theorem val_13826636386797700231 : FL.val 13826636386797700231 = (-5089130397648007 : Rat) / 9007199254740992 := by decide +kernel
theorem fin_13826636386797700231 : FL.Finite 13826636386797700231 := by decide +kernel
theorem val_13823253784704314578 : FL.val 13823253784704314578 = (-3105063965816425 : Rat) / 9007199254740992 := by decide +kernel
theorem fin_13823253784704314578 : FL.Finite 13823253784704314578 := by decide +kernel
theorem val_13830277426958423814 : FL.val 13830277426958423814 = (-4365085279185795 : Rat) / 4503599627370496 := by decide +kernel
theorem fin_13830277426958423814 : FL.Finite 13830277426958423814 := by decide +kernel
theorem val_4611127425713396243 : FL.val 4611127425713396243 = (8448606540749331 : Rat) / 4503599627370496 := by decide +kernel
theorem fin_4611127425713396243 : FL.Finite 4611127425713396243 := by decide +kernel
theorem val_4586149535949532533 : FL.val 4586149535949532533 = (5988714913738101 : Rat) / 144115188075855872 := by decide +kernel
theorem fin_4586149535949532533 : FL.Finite 4586149535949532533 := by decide +kernel
theorem val_4578903721908372390 : FL.val 4578903721908372390 = (3875050063659475 : Rat) / 288230376151711744 := by decide +kernel
theorem fin_4578903721908372390 : FL.Finite 4578903721908372390 := by decide +kernel
theorem val_13816565366726681444 : FL.val 13816565366726681444 = (-2132227302185177 : Rat) / 18014398509481984 := by decide +kernel
theorem fin_13816565366726681444 : FL.Finite 13816565366726681444 := by decide +kernel
theorem val_4607250760899102990 : FL.val 4607250760899102990 = (2285970863228039 : Rat) / 2251799813685248 := by decide +kernel
theorem fin_4607250760899102990 : FL.Finite 4607250760899102990 := by decide +kernel
theorem eta_small : eta ≤ 1 / 10 ^ 320 := by
  have h : eta = (1 : Rat) / 2 ^ 1075 := by
    unfold eta p2
    have : ((-1075 : Int)) = -((1075 : Nat) : Int) := rfl
    rw [this, Rat.zpow_neg, Rat.zpow_natCast, Rat.div_def, Rat.one_mul]
  rw [h]; decide +kernel
theorem hbnd (m : Rat) (h : m ≤ (1000000 : Rat)) : 10000 * m + 10000 ≤ (2 : Rat) ^ 1000 := by
  have : 10000 * (1000000 : Rat) + 10000 ≤ (2 : Rat) ^ 1000 := by decide +kernel
  grind
set_option maxHeartbeats 4000000 in
theorem core (c : Nat) (fc : Finite c) (m : Rat) (hm : m ≤ (1000000 : Rat)) (c1 : -m ≤ val c) (c2 : val c ≤ m) :
    ∃ x z r g b, floatBits .mul .f64 c 4606736165463080392 = some x ∧ floatBits .mul .f64 c 4607583499253154051 = some z ∧ Mat.row3 4611779666061440502 13826636386797700231 13823253784704314578 x c z = some r ∧ Mat.row3 13830277426958423814 4611127425713396243 4586149535949532533 x c z = some g ∧ Mat.row3 4578903721908372390 13816565366726681444 4607250760899102990 x c z = some b ∧ Finite r ∧ Finite g ∧ Finite b ∧ -(m * (1 / 1000000) + (1 / 1000000)) ≤ val r - val c ∧ val r - val c ≤ m * (1 / 1000000) + (1 / 1000000) ∧ -(m * (1 / 1000000) + (1 / 1000000)) ≤ val g - val c ∧ val g - val c ≤ m * (1 / 1000000) + (1 / 1000000) ∧ -(m * (1 / 1000000) + (1 / 1000000)) ≤ val b - val c ∧ val b - val c ≤ m * (1 / 1000000) + (1 / 1000000) := by
  have hM := hbnd m hm
  have hp := p2_big
  have he := eta_small
  have he0 := Rat.le_of_lt eta_pos
  have he9 : 2 * eta ≤ 1 := by grind
  obtain ⟨x, ex, fx, bx⟩ := mul_ok c 4606736165463080392 fc fin_4606736165463080392 (by rw [val_4606736165463080392]; grind) (by rw [val_4606736165463080392]; grind)
  rw [val_4606736165463080392] at bx
  obtain ⟨x1, x2⟩ := bx (2 * m) (by grind) (by grind)
  obtain ⟨z, ez, fz, bz⟩ := mul_ok c 4607583499253154051 fc fin_4607583499253154051 (by rw [val_4607583499253154051]; grind) (by rw [val_4607583499253154051]; grind)
  rw [val_4607583499253154051] at bz
  obtain ⟨z1, z2⟩ := bz (2 * m) (by grind) (by grind)
  unfold u at x1 x2 z1 z2
  have X1 : -(2 * m + eta) ≤ val x := by clear hM hp he; grind
  have X2 : val x ≤ 2 * m + eta := by clear hM hp he; grind
  have Z1 : -(2 * m + eta) ≤ val z := by clear hM hp he; grind
  have Z2 : val z ≤ 2 * m + eta := by clear hM hp he; grind
  obtain ⟨r, er, fr, r1, r2⟩ := row3_ok 4611779666061440502 13826636386797700231 13823253784704314578 x c z fin_4611779666061440502 fin_13826636386797700231 fin_13823253784704314578 fx fc fz ((2298623630711547 / 1125899906842624) * (2 * m + eta)) ((5089130397648007 / 9007199254740992) * (2 * m + eta)) ((3105063965816425 / 9007199254740992) * (2 * m + eta)) (by rw [val_4611779666061440502]; grind) (by rw [val_4611779666061440502]; grind) (by rw [val_13826636386797700231]; grind) (by rw [val_13826636386797700231]; grind) (by rw [val_13823253784704314578]; grind) (by rw [val_13823253784704314578]; grind) (by grind)
  rw [val_4611779666061440502, val_13826636386797700231, val_13823253784704314578] at r1 r2
  obtain ⟨g, eg, fg, g1, g2⟩ := row3_ok 13830277426958423814 4611127425713396243 4586149535949532533 x c z fin_13830277426958423814 fin_4611127425713396243 fin_4586149535949532533 fx fc fz ((4365085279185795 / 4503599627370496) * (2 * m + eta)) ((8448606540749331 / 4503599627370496) * (2 * m + eta)) ((5988714913738101 / 144115188075855872) * (2 * m + eta)) (by rw [val_13830277426958423814]; grind) (by rw [val_13830277426958423814]; grind) (by rw [val_4611127425713396243]; grind) (by rw [val_4611127425713396243]; grind) (by rw [val_4586149535949532533]; grind) (by rw [val_4586149535949532533]; grind) (by grind)
  rw [val_13830277426958423814, val_4611127425713396243, val_4586149535949532533] at g1 g2
  obtain ⟨b, eb, fb, b1, b2⟩ := row3_ok 4578903721908372390 13816565366726681444 4607250760899102990 x c z fin_4578903721908372390 fin_13816565366726681444 fin_4607250760899102990 fx fc fz ((3875050063659475 / 288230376151711744) * (2 * m + eta)) ((2132227302185177 / 18014398509481984) * (2 * m + eta)) ((2285970863228039 / 2251799813685248) * (2 * m + eta)) (by rw [val_4578903721908372390]; grind) (by rw [val_4578903721908372390]; grind) (by rw [val_13816565366726681444]; grind) (by rw [val_13816565366726681444]; grind) (by rw [val_4607250760899102990]; grind) (by rw [val_4607250760899102990]; grind) (by grind)
  rw [val_4578903721908372390, val_13816565366726681444, val_4607250760899102990] at b1 b2
  unfold u at r1 r2 g1 g2 b1 b2
  refine ⟨x, z, r, g, b, ex, ez, er, eg, eb, fr, fg, fb, ?_⟩
  clear hM hp X1 X2 Z1 Z2 bx bz
  refine ⟨?_, ?_, ?_, ?_, ?_, ?_⟩
  · clear g1 g2 b1 b2; grind
  · clear g1 g2 b1 b2; grind
  · clear r1 r2 b1 b2; grind
  · clear r1 r2 b1 b2; grind
  · clear r1 r2 g1 g2; grind
  · clear r1 r2 g1 g2; grind
theorem close_ok (r' r tol : Nat) (m : Rat) (fr' : Finite r') (fr : Finite r) (ft : Finite tol) (hm0 : 0 ≤ m) (hm : m ≤ (1000000 : Rat))
    (h3 : -(m * (1 / 1000000) + (1 / 1000000)) ≤ val r' - val r) (h4 : val r' - val r ≤ m * (1 / 1000000) + (1 / 1000000)) (ht : m * (1 / 200000) + (1 / 200000) ≤ val tol) :
    ∃ d, floatBits .sub .f64 r' r = some d ∧ leB (absW d) tol = true := by
  have hp := p2_big
  have hM := hbnd m hm
  obtain ⟨d, e, fd, bd⟩ := sub_ok r' r fr' fr (by grind) (by grind)
  obtain ⟨d1, d2⟩ := bd (m * (1 / 1000000) + (1 / 1000000)) h3 h4
  unfold u at d1 d2
  obtain ⟨fa, -, -, -, hv⟩ := absW_ok fd
  refine ⟨d, e, ?_⟩
  rw [leB_ok fa ft]
  clear hp bd hM
  rcases hv with hv | hv <;> rw [hv] <;> simp only [decide_eq_true_eq] <;> grind
theorem final (c : Nat) (fc : Finite c) (h : gtB (absW c) 4696837146684686336 = false) :
    ∃ x z r g b d0 d1 d2 s1 tol, floatBits .mul .f64 c 4606736165463080392 = some x ∧ floatBits .mul .f64 c 4607583499253154051 = some z ∧ Mat.row3 4611779666061440502 13826636386797700231 13823253784704314578 x c z = some r ∧ Mat.row3 13830277426958423814 4611127425713396243 4586149535949532533 x c z = some g ∧ Mat.row3 4578903721908372390 13816565366726681444 4607250760899102990 x c z = some b ∧ floatBits .sub .f64 r c = some d0 ∧ floatBits .sub .f64 g c = some d1 ∧ floatBits .sub .f64 b c = some d2 ∧
      floatBits .add .f64 4607182418800017408 (absW c) = some s1 ∧ floatBits .mul .f64 4532020583610935537 s1 = some tol ∧
      leB (absW d0) tol = true ∧ leB (absW d1) tol = true ∧ leB (absW d2) tol = true := by
  obtain ⟨fa, a0, a1, a2, -⟩ := absW_ok fc
  rw [gtB_ok fa fin_4696837146684686336, val_4696837146684686336] at h
  simp only [decide_eq_false_iff_not] at h
  have hM : val (absW c) ≤ 1000000 := by grind
  obtain ⟨x, z, r, g, b, eX, eZ, eR, eG, eB, fr, fg, fb, n1, n2, n3, n4, n5, n6⟩ := core c fc (val (absW c)) hM (by grind) a1
  have hp := p2_big
  have hb := hbnd _ hM
  obtain ⟨s1, es, fs, bs⟩ := add_ok 4607182418800017408 (absW c) fin_4607182418800017408 fa (by rw [val_4607182418800017408]; grind) (by rw [val_4607182418800017408]; grind)
  rw [val_4607182418800017408] at bs
  generalize val (absW c) = m at *
  obtain ⟨s2, s3⟩ := bs (1 + m) (by grind) (by grind)
  unfold u at s2 s3
  have S1 : (999 / 1000) * (1 + m) ≤ val s1 := by clear hp hb; grind
  have S2 : val s1 ≤ 2 * (1 + m) := by clear hp hb; grind
  obtain ⟨tol, et, ft, bt⟩ := mul_ok 4532020583610935537 s1 fin_4532020583610935537 fs (by rw [val_4532020583610935537]; grind) (by rw [val_4532020583610935537]; grind)
  rw [val_4532020583610935537] at bt
  obtain ⟨t2, t3⟩ := bt (4 * (1 + m)) (by grind) (by grind)
  unfold u at t2 t3
  have he := eta_small
  have he0 := eta_pos
  have ht : m * (1 / 200000) + (1 / 200000) ≤ val tol := by clear hp hb s2 s3; grind
  obtain ⟨d0, e0, l0⟩ := close_ok r c tol m fr fc ft a0 hM n1 n2 ht
  obtain ⟨d1, e1, l1⟩ := close_ok g c tol m fg fc ft a0 hM n3 n4 ht
  obtain ⟨d2, e2, l2⟩ := close_ok b c tol m fb fc ft a0 hM n5 n6 ht
  exact ⟨x, z, r, g, b, d0, d1, d2, s1, tol, eX, eZ, eR, eG, eB, e0, e1, e2, es, et, l0, l1, l2⟩

set_option maxRecDepth 100000 in
set_option maxHeartbeats 4000000 in
/-- THE WALK -/
theorem walk (a0 : Nat) (w : World) (w0 : (Lit.float .f64 a0).wf = true) :
    Calls Try.prog 3 #[.float .f64 a0] w fun e w' => e = .returned (.bool true) ∧ Below w.heap.size w w' := by
  have q0 : a0 < 2 ^ 64 := by simpa [Lit.wf] using w0
  clear w0
  rcases classes a0 q0 with fc | fc | fc
  · cases h : gtB (absW a0) 4696837146684686336 with
    | true =>
      have t : (FloatKind.f64.format.order (absW a0) 4696837146684686336 == some .gt) = true := h
      clear h
      go_enter Try.func3, Try.ntmps3
      go_wp2_with fail
      refine (fin_yes a0 fc _).mono ?_
      rintro e w1 ⟨rfl, b1⟩
      go_wp2_with fail
      refine (zzAbs_any a0 _).mono ?_
      rintro e w' ⟨rfl, rfl⟩
      clear fc
      go_wp2
      go_ret
      exact ⟨rfl, b1⟩
    | false =>
      have t : (FloatKind.f64.format.order (absW a0) 4696837146684686336 == some .gt) = false := h
      obtain ⟨x, z, r, g, b, d0, d1, d2, s1, tol, eX, eZ, eR, eG, eB, k0, k1, k2, t1, t2, l0, l1, l2⟩ := final a0 fc h
      have H := Lib.hid (And.intro eR (And.intro eG eB))
      have K := Lib.hid (And.intro k0 (And.intro k1 (And.intro k2 (And.intro l0 (And.intro l1 l2)))))
      clear eR eG eB k0 k1 k2 l0 l1 l2 h
      have m1 : ∀ w, (binOp .add 22 (.float .f64 4607182418800017408) (.float .f64 (absW a0))).run Try.prog w = .ok (.float .f64 s1) w := fun w => run_float_arith w .add 22 .f64 _ _ _ t1
      have m2 : ∀ w, (binOp .mul 22 (.float .f64 4532020583610935537) (.float .f64 s1)).run Try.prog w = .ok (.float .f64 tol) w := fun w => run_float_arith w .mul 22 .f64 _ _ _ t2
      have m3 : ∀ w, (binOp .mul 22 (.float .f64 a0) (.float .f64 4606736165463080392)).run Try.prog w = .ok (.float .f64 x) w := fun w => run_float_arith w .mul 22 .f64 _ _ _ eX
      have m4 : ∀ w, (binOp .mul 22 (.float .f64 a0) (.float .f64 4607583499253154051)).run Try.prog w = .ok (.float .f64 z) w := fun w => run_float_arith w .mul 22 .f64 _ _ _ eZ
      clear eX eZ t1 t2
      have F := Lib.hid fc
      clear fc
      go_enter Try.func3, Try.ntmps3
      go_wp2_with fail
      refine (fin_yes a0 F.out _).mono ?_
      rintro e w1 ⟨rfl, b1⟩
      go_wp2_with fail
      refine (zzAbs_any a0 _).mono ?_
      rintro e w' ⟨rfl, rfl⟩
      go_wp2_with fail
      refine (zzAbs_any a0 _).mono ?_
      rintro e w' ⟨rfl, rfl⟩
      go_wp2_with fail
      refine (ZZXyzToLinA98rgb_n011_226_any x a0 z r g b (xyz_to_lin_a98rgb_any x a0 z r g b H.out.1 H.out.2.1 H.out.2.2) _).mono ?_
      rintro e w2 ⟨rfl, b2⟩
      go_wp2_with fail
      refine (zzNear_any r a0 tol d0 K.out.1 K.out.2.2.2.1 _).mono ?_
      rintro e w' ⟨rfl, rfl⟩
      go_wp2_with fail
      refine (zzNear_any g a0 tol d1 K.out.2.1 K.out.2.2.2.2.1 _).mono ?_
      rintro e w' ⟨rfl, rfl⟩
      go_wp2_with fail
      refine (zzNear_any b a0 tol d2 K.out.2.2.1 K.out.2.2.2.2.2 _).mono ?_
      rintro e w' ⟨rfl, rfl⟩
      go_wp2
      go_ret
      exact ⟨rfl, b1.trans (b2.mono b1.size)⟩
  · go_enter Try.func3, Try.ntmps3
    go_wp2_with fail
    refine (fin_inf a0 fc _).mono ?_
    rintro e w1 ⟨rfl, b1⟩
    clear fc
    go_wp2
    go_ret
    exact ⟨rfl, b1⟩
  · go_enter Try.func3, Try.ntmps3
    go_wp2_with fail
    refine (fin_nan a0 fc _).mono ?_
    rintro e w1 ⟨rfl, b1⟩
    clear fc
    go_wp2
    go_ret
    exact ⟨rfl, b1⟩

set_option maxRecDepth 100000 in
theorem lifted (os : Os) (started : os.Started) (H : Type) (enc : TypeId × Value → H) :
    ReturnsInHanded {} Try.checked os 3 .any (Rows.fnXyzToLinA98rgbSendsD65GrayToEqualChannelsSpec.pre6 enc Try.prog Try.f3 Rows.fnXyzToLinA98rgbSendsD65GrayToEqualChannelsRow.domain false) (Rows.fnXyzToLinA98rgbSendsD65GrayToEqualChannelsSpec.post enc Try.prog Try.f3 false true false false) := by
  refine returnsInHanded_of_change (C := Try.checked) own started (by kernel_rfl) Try.func3
    (ChangeSpec.witness6 (enc := enc) (C := Try.checked) false ⟨#[], #[.float .f64 0], []⟩ 8 (by kernel_rfl) (by kernel_rfl) (by kernel_rfl) (by kernel_rfl)) ?_
  intro W base args ds gs before hval0 hW hcnd _
  have hval : ∀ (j : Nat) t v, Try.f3.params[j]? = some t → args[j]? = some v → Value.okWide Try.prog W .any base t v := hval0
  have hW' := hW
  obtain ⟨p, q, hA0, hV, rfl, hfz, hnd⟩ := hW
  have hA : DataW.TrodAll enc Try.prog W 0 (fun _ => true) true Try.f3.params.toList args.toList ds p := hA0
  rw [Try.params3] at hA hval
  obtain ⟨v0, vs0, d0, ds0, p0, q0, hargs, rfl, rfl, h0, r0⟩ := trodAll_cons hA
  obtain ⟨rfl, rfl, rfl⟩ := trodAll_nil r0
  obtain rfl : args = #[v0] := by cases args; simp_all
  obtain ⟨rfl, rfl⟩ := trodVars_none hV
  obtain ⟨a0, rfl, rfl, rfl, w0⟩ := open_float Try.underlying22 (hval 0 22 v0 rfl rfl) h0
  clear hA0 hval0
  refine (walk a0 W w0).mono fun e W' ⟨he, bel⟩ => ?_
  subst he
  exact ⟨_, rfl, _, _, _, [], _, [], hW', trodAll_mk1 (shut_bool Try.underlying4 _), (trodAll_cons_mk (shut_float Try.underlying22 w0) trodAll_mk0), rfl, bel.frame _, fun h => by cases h⟩

theorem over : Rows.fnXyzToLinA98rgbSendsD65GrayToEqualChannelsRow.holds Try.pinned (OpenSpec.ofChange Rows.fnXyzToLinA98rgbSendsD65GrayToEqualChannelsSpec) :=
  OpenClaim.holds_of_wide 3 Try.f3 rfl rfl rfl rfl rfl rfl rfl ⟨rfl, rfl, rfl, rfl, rfl⟩ rfl rfl rfl rfl rfl (by kernel_rfl) Try.func3 (by kernel_rfl)
    (of_decide_eq_true (by kernel_rfl)) (by unfold Func.isWrapper; first | (rw [if_pos (by decide +kernel)]; kernel_rfl) | (rw [if_neg (by decide +kernel)]; exact ⟨rfl, rfl⟩))
    (fun os started H enc _ => lifted os started H enc)

/-- THE STATEMENT -/
theorem proved : Rows.FnXyzToLinA98rgbSendsD65GrayToEqualChannelsSaid := over
#print axioms proved
end Go.Proofs.Ythjgigahhooilaa.fnXyzToLinA98rgbSendsD65GrayToEqualChannels
