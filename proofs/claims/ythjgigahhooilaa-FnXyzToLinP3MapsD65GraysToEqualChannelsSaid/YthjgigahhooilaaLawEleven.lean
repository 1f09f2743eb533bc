/-
  For finite k of magnitude at most 1e200, xyz_to_lin_p3 maps the D65 gray of k to (k, k, k) within 1e-7 times the magnitude of k (plus 1e-300): the Go law FnXyzToLinP3MapsD65GraysToEqualChannels returns true for every input. No condition.
-/
import Derived.Test.YthjgigahhooilaaRows
import Derived.WalkKit
import Derived.ProofKit
import Derived.OpenShut
import Derived.ShutString
import Derived.ChangeOld
import Derived.Below
import Derived.Lib.Hide
import Derived.Outline
import Derived.Laws.Cover2
import Derived.Test.YthjgigahhooilaaWrap
import Derived.Test.YthjgigahhooilaaFLB
namespace Go.Proofs.Ythjgigahhooilaa.fnXyzToLinP3MapsD65GraysToEqualChannels
open Go.ChangeShapes Go.WideShapes Go.ChangeAt Go.RowKit
open Go.ChangeMaps (open_string shut_string)
set_option linter.unusedVariables false

theorem own : ownKnob Try.prog.godebug = none := by kernel_rfl
theorem laidOut : laidOutB Try.prog = true := by kernel_rfl

open FL Mat
theorem run_neg (x : Nat) (w : World) : (Op.unary .neg (.float .f64 x)).run Try.prog w = .ok (.float .f64 (flip x)) w := rfl
set_option maxHeartbeats 400000 in
theorem zzAbs_any (x : Nat) (w : World) : Calls Try.prog 15 #[.float .f64 x] w fun e w' => e = .returned (.float .f64 (absW x)) ∧ w = w' := by
  cases h1 : ltB x 0 with
  | false =>
    have g : absW x = x := by unfold absW; rw [h1]; rfl
    have h2 : (FloatKind.f64.format.order x 0 == some .lt) = false := h1
    rw [g]
    clear h1
    go_enter Try.func15, Try.ntmps15
    go_wp2
    go_ret
    exact ⟨rfl, rfl⟩
  | true =>
    have g : absW x = flip x := by unfold absW; rw [h1]; rfl
    have hn := fun w => run_neg x w
    have h2 : (FloatKind.f64.format.order x 0 == some .lt) = true := h1
    rw [g]
    clear h1
    go_enter Try.func15, Try.ntmps15
    go_wp2
    go_ret
    exact ⟨rfl, rfl⟩
set_option maxRecDepth 100000 in
set_option maxHeartbeats 2000000 in
theorem unwrap_any (r0 r1 r2 : Nat) (w : World) :
    Calls Try.prog 35 #[.agg #[.float .f64 r0], .agg #[.float .f64 r1], .agg #[.float .f64 r2]] w fun e w' => e = .returned (.tuple #[.float .f64 r0, .float .f64 r1, .float .f64 r2]) ∧ Below w.heap.size w w' := by
  go_enter Try.func35, Try.ntmps35
  go_wp2
  generalize hW : World.alloc _ _ = W
  have hS : VS w.heap.size (w.heap.size + 1) (w.heap.size + 1 + 1) r0 r1 r2 w W := by
    subst hW
    refine ⟨by simp [go_sem], by simp [go_sem], by simp [go_sem], by simp; omega, ?_⟩
    exact (((Below.refl _ _).alloc (Nat.le_refl _) _).alloc (by simp) _).alloc (by simp; omega) _
  obtain ⟨g1, hg1⟩ : ∃ g, g = w.heap.size := ⟨_, rfl⟩
  obtain ⟨g2, hg2⟩ : ∃ g, g = w.heap.size + 1 := ⟨_, rfl⟩
  obtain ⟨g3, hg3⟩ : ∃ g, g = w.heap.size + 1 + 1 := ⟨_, rfl⟩
  have hS' : VS g1 g2 g3 r0 r1 r2 w W := by rw [hg1, hg2, hg3]; exact hS
  rw [← hg3, ← hg2, ← hg1]
  have HS := Lib.hid hS'
  clear hS hS' hW hg1 hg2 hg3
  go_region_held3 (fun w' => w'.cell? ⟨g1, 0, none⟩ = some (.float .f64 r0) ∧ w'.cell? ⟨g2, 0, none⟩ = some (.float .f64 r1) ∧ w'.cell? ⟨g3, 0, none⟩ = some (.float .f64 r2) ∧ w.heap.size ≤ w'.heap.size ∧ Below w.heap.size w w')
    (first | exact HS.out.drew | (refine VS.keep ‹Below _ _ _› ?_; assumption))
    (first | (go_at_call 34; refine (Value_any _ _).mono ?_; rintro e w' ⟨rfl, hb⟩))
  rename_i hH
  have hB := hH.2.2.2.2
  clear hH
  go_wp2
  go_ret3
  exact ⟨rfl, hB⟩
set_option maxRecDepth 100000 in
set_option maxHeartbeats 2000000 in
theorem zz_any (x y z r0 r1 r2 : Nat) (hc : ∀ w, Calls Try.prog 36 #[.agg #[.float .f64 x], .agg #[.float .f64 y], .agg #[.float .f64 z]] w fun e w' => e = .returned (.tuple #[.agg #[.float .f64 r0], .agg #[.float .f64 r1], .agg #[.float .f64 r2]]) ∧ Below w.heap.size w w') (w : World) :
    Calls Try.prog 14 #[.float .f64 x, .float .f64 y, .float .f64 z] w fun e w' => e = .returned (.tuple #[.float .f64 r0, .float .f64 r1, .float .f64 r2]) ∧ Below w.heap.size w w' := by
  have HC := Lib.hid hc
  clear hc
  go_enter Try.func14, Try.ntmps14
  go_wp2_with fail
  refine (NewF64_any x _).mono ?_
  rintro e w1 ⟨rfl, b1⟩
  go_wp2_with fail
  refine (NewF64_any y _).mono ?_
  rintro e w2 ⟨rfl, b2⟩
  go_wp2_with fail
  refine (NewF64_any z _).mono ?_
  rintro e w3 ⟨rfl, b3⟩
  go_wp2_with fail
  refine (HC.out _).mono ?_
  rintro e w4 ⟨rfl, b4⟩
  have B4 : Below w.heap.size w w4 := b1.trans ((b2.mono b1.size).trans ((b3.mono (Nat.le_trans b1.size b2.size)).trans (b4.mono (Nat.le_trans b1.size (Nat.le_trans b2.size b3.size)))))
  clear b1 b2 b3 b4
  go_wp2_with fail
  refine (unwrap_any r0 r1 r2 _).mono ?_
  rintro e w5 ⟨rfl, b5⟩
  go_wp2
  go_ret3
  exact ⟨rfl, B4.trans (b5.mono B4.size)⟩
def tameB (x : Nat) : Bool := eqB x x && leB x 7598952565167317594 && geB x 16822324602022093402
set_option maxHeartbeats 1000000 in
theorem tame_any (x : Nat) (w : World) : Calls Try.prog 13 #[.float .f64 x] w fun e w' => e = .returned (.bool (tameB x)) ∧ w = w' := by
  cases h1 : eqB x x with
  | false =>
    have g : tameB x = false := by unfold tameB; rw [h1]; rfl
    have t1 : (FloatKind.f64.format.order x x == some .eq) = false := h1
    rw [g]
    clear h1 g
    go_enter Try.func13, Try.ntmps13
    go_wp2
    go_ret
    exact ⟨rfl, rfl⟩
  | true =>
    have t1 : (FloatKind.f64.format.order x x == some .eq) = true := h1
    cases h2 : leB x 7598952565167317594 with
    | false =>
      have g : tameB x = false := by unfold tameB; rw [h1, h2]; rfl
      have t2 : (FloatKind.f64.format.order x 7598952565167317594 == some .lt || FloatKind.f64.format.order x 7598952565167317594 == some .eq) = false := h2
      rw [g]
      clear h1 h2 g
      go_enter Try.func13, Try.ntmps13
      go_wp2
      go_ret
      exact ⟨rfl, rfl⟩
    | true =>
      have t2 : (FloatKind.f64.format.order x 7598952565167317594 == some .lt || FloatKind.f64.format.order x 7598952565167317594 == some .eq) = true := h2
      cases h3 : geB x 16822324602022093402 with
      | false =>
        have g : tameB x = false := by unfold tameB; rw [h1, h2, h3]; rfl
        have t3 : (FloatKind.f64.format.order x 16822324602022093402 == some .gt || FloatKind.f64.format.order x 16822324602022093402 == some .eq) = false := h3
        rw [g]
        clear h1 h2 h3 g
        go_enter Try.func13, Try.ntmps13
        go_wp2
        go_ret
        exact ⟨rfl, rfl⟩
      | true =>
        have g : tameB x = true := by unfold tameB; rw [h1, h2, h3]; rfl
        have t3 : (FloatKind.f64.format.order x 16822324602022093402 == some .gt || FloatKind.f64.format.order x 16822324602022093402 == some .eq) = true := h3
        rw [g]
        clear h1 h2 h3 g
        go_enter Try.func13, Try.ntmps13
        go_wp2
        go_ret
        exact ⟨rfl, rfl⟩
theorem val_7598952565167317594 : FL.val 7598952565167317594 = (99999999999999996973312221251036165947450327545502362648241750950346848435554075534196338404706251868027512415973882408182135734368278484639385041047239877871023591066789981811181813306167128854888448 : Rat) := by decide +kernel
theorem fin_7598952565167317594 : FL.Finite 7598952565167317594 := by decide +kernel
theorem val_16822324602022093402 : FL.val 16822324602022093402 = (-99999999999999996973312221251036165947450327545502362648241750950346848435554075534196338404706251868027512415973882408182135734368278484639385041047239877871023591066789981811181813306167128854888448 : Rat) := by decide +kernel
theorem fin_16822324602022093402 : FL.Finite 16822324602022093402 := by decide +kernel
theorem val_4502148214488346440 : FL.val 4502148214488346440 = (944473296573929 : Rat) / 9444732965739290427392 := by decide +kernel
theorem fin_4502148214488346440 : FL.Finite 4502148214488346440 := by decide +kernel
theorem val_118622047889322841 : FL.val 118622047889322841 = (6032057205060441 : Rat) / 6032057205060440848842124543157735677050252251748505781796615064961622344493727293370973578138265743708225425014400837164813540499979063179105919597766951022193355091707896034850684039059079180396788349106095584290087446076413771468940477241550670753145517602931224392424029547429993824129889235158145614364972941312 := by decide +kernel
theorem fin_118622047889322841 : FL.Finite 118622047889322841 := by decide +kernel
theorem val_4606736165463080392 : FL.val 4606736165463080392 = (1070118239725497 : Rat) / 1125899906842624 := by decide +kernel
theorem fin_4606736165463080392 : FL.Finite 4606736165463080392 := by decide +kernel
theorem val_4607583499253154051 : FL.val 4607583499253154051 = (4904680080507139 : Rat) / 4503599627370496 := by decide +kernel
theorem fin_4607583499253154051 : FL.Finite 4607583499253154051 := by decide +kernel
theorem val_4612797274681751849 : FL.val 4612797274681751849 = (5614855881734441 : Rat) / 2251799813685248 := by decide +kernel
theorem fin_4612797274681751849 : FL.Finite 4612797274681751849 := by decide +kernel
theorem val_13829936414229251323 : FL.val 13829936414229251323 = (-8389157829199099 : Rat) / 9007199254740992 := by decide +kernel
theorem fin_13829936414229251323 : FL.Finite 13829936414229251323 := by decide +kernel
theorem val_13824298249327843042 : FL.val 13824298249327843042 = (-3627296277580657 : Rat) / 9007199254740992 := by decide +kernel
theorem fin_13824298249327843042 : FL.Finite 13824298249327843042 := by decide +kernel
theorem val_13829018628828503116 : FL.val 13829018628828503116 = (-1867843107112723 : Rat) / 2251799813685248 := by decide +kernel
theorem fin_13829018628828503116 : FL.Finite 13829018628828503116 := by decide +kernel
theorem val_4610617152377875984 : FL.val 4610617152377875984 = (496145825326817 : Rat) / 281474976710656 := by decide +kernel
theorem fin_4610617152377875984 : FL.Finite 4610617152377875984 := by decide +kernel
theorem val_4582466573495113356 : FL.val 4582466573495113356 = (1702338021672355 : Rat) / 72057594037927936 := by decide +kernel
theorem fin_4582466573495113356 : FL.Finite 4582466573495113356 := by decide +kernel
theorem val_4585326749603112614 : FL.val 4585326749603112614 = (2582964283659091 : Rat) / 72057594037927936 := by decide +kernel
theorem fin_4585326749603112614 : FL.Finite 4585326749603112614 := by decide +kernel
theorem val_13813525256620716304 : FL.val 13813525256620716304 = (-343049943923473 : Rat) / 4503599627370496 := by decide +kernel
theorem fin_13813525256620716304 : FL.Finite 13813525256620716304 := by decide +kernel
theorem val_4606794069116791646 : FL.val 4606794069116791646 = (4309424785757615 : Rat) / 4503599627370496 := by decide +kernel
theorem fin_4606794069116791646 : FL.Finite 4606794069116791646 := by decide +kernel
theorem eta_small : eta ≤ 1 / 10 ^ 320 := by
  have h : eta = (1 : Rat) / 2 ^ 1075 := by
    unfold eta p2
    have : ((-1075 : Int)) = -((1075 : Nat) : Int) := rfl
    rw [this, Rat.zpow_neg, Rat.zpow_natCast, Rat.div_def, Rat.one_mul]
  rw [h]; decide +kernel
theorem hbnd (m : Rat) (h : m ≤ (10 ^ 201 : Rat)) : 10000 * m + 10000 ≤ (2 : Rat) ^ 1000 := by
  have : 10000 * (10 ^ 201 : Rat) + 10000 ≤ (2 : Rat) ^ 1000 := by decide +kernel
  grind
set_option maxHeartbeats 4000000 in
theorem core (c : Nat) (fc : Finite c) (m : Rat) (hm : m ≤ (10 ^ 201 : Rat)) (c1 : -m ≤ val c) (c2 : val c ≤ m) :
    ∃ x z r g b, floatBits .mul .f64 c 4606736165463080392 = some x ∧ floatBits .mul .f64 c 4607583499253154051 = some z ∧ Mat.row3 4612797274681751849 13829936414229251323 13824298249327843042 x c z = some r ∧ Mat.row3 13829018628828503116 4610617152377875984 4582466573495113356 x c z = some g ∧ Mat.row3 4585326749603112614 13813525256620716304 4606794069116791646 x c z = some b ∧ Finite r ∧ Finite g ∧ Finite b ∧ -(m * (1 / 1000000000) + (1 / 10 ^ 310)) ≤ val r - val c ∧ val r - val c ≤ m * (1 / 1000000000) + (1 / 10 ^ 310) ∧ -(m * (1 / 1000000000) + (1 / 10 ^ 310)) ≤ val g - val c ∧ val g - val c ≤ m * (1 / 1000000000) + (1 / 10 ^ 310) ∧ -(m * (1 / 1000000000) + (1 / 10 ^ 310)) ≤ val b - val c ∧ val b - val c ≤ m * (1 / 1000000000) + (1 / 10 ^ 310) := by
  have hM := hbnd m hm
  have hp := p2_big
  have he := eta_small
  have he0 := Rat.le_of_lt eta_pos
  have he9 : 2 * eta ≤ 1 := by grind
  obtain ⟨x, ex, fx, bx⟩ := mul_ok c 4606736165463080392 fc fin_4606736165463080392 (by rw [val_4606736165463080392]; grind) (by rw [val_4606736165463080392]; grind)
  rw [val_4606736165463080392] at bx
  obtain ⟨x1, x2⟩ := bx (2 * m) (by grind) (by grind)
  obtain ⟨z, ez, fz, bz⟩ := mul_ok c 4607583499253154051 fc fin_4607583499253154051 (by rw [val_4607583499253154051]; grind) (by rw [val_4607583499253154051]; grind)
  rw [val_4607583499253154051] at bz
  obtain ⟨z1, z2⟩ := bz (2 * m) (by grind) (by grind)
  unfold u at x1 x2 z1 z2
  have X1 : -(2 * m + eta) ≤ val x := by clear hM hp he; grind
  have X2 : val x ≤ 2 * m + eta := by clear hM hp he; grind
  have Z1 : -(2 * m + eta) ≤ val z := by clear hM hp he; grind
  have Z2 : val z ≤ 2 * m + eta := by clear hM hp he; grind
  obtain ⟨r, er, fr, r1, r2⟩ := row3_ok 4612797274681751849 13829936414229251323 13824298249327843042 x c z fin_4612797274681751849 fin_13829936414229251323 fin_13824298249327843042 fx fc fz ((5614855881734441 / 2251799813685248) * (2 * m + eta)) ((8389157829199099 / 9007199254740992) * (2 * m + eta)) ((3627296277580657 / 9007199254740992) * (2 * m + eta)) (by rw [val_4612797274681751849]; grind) (by rw [val_4612797274681751849]; grind) (by rw [val_13829936414229251323]; grind) (by rw [val_13829936414229251323]; grind) (by rw [val_13824298249327843042]; grind) (by rw [val_13824298249327843042]; grind) (by grind)
  rw [val_4612797274681751849, val_13829936414229251323, val_13824298249327843042] at r1 r2
  obtain ⟨g, eg, fg, g1, g2⟩ := row3_ok 13829018628828503116 4610617152377875984 4582466573495113356 x c z fin_13829018628828503116 fin_4610617152377875984 fin_4582466573495113356 fx fc fz ((1867843107112723 / 2251799813685248) * (2 * m + eta)) ((496145825326817 / 281474976710656) * (2 * m + eta)) ((1702338021672355 / 72057594037927936) * (2 * m + eta)) (by rw [val_13829018628828503116]; grind) (by rw [val_13829018628828503116]; grind) (by rw [val_4610617152377875984]; grind) (by rw [val_4610617152377875984]; grind) (by rw [val_4582466573495113356]; grind) (by rw [val_4582466573495113356]; grind) (by grind)
  rw [val_13829018628828503116, val_4610617152377875984, val_4582466573495113356] at g1 g2
  obtain ⟨b, eb, fb, b1, b2⟩ := row3_ok 4585326749603112614 13813525256620716304 4606794069116791646 x c z fin_4585326749603112614 fin_13813525256620716304 fin_4606794069116791646 fx fc fz ((2582964283659091 / 72057594037927936) * (2 * m + eta)) ((343049943923473 / 4503599627370496) * (2 * m + eta)) ((4309424785757615 / 4503599627370496) * (2 * m + eta)) (by rw [val_4585326749603112614]; grind) (by rw [val_4585326749603112614]; grind) (by rw [val_13813525256620716304]; grind) (by rw [val_13813525256620716304]; grind) (by rw [val_4606794069116791646]; grind) (by rw [val_4606794069116791646]; grind) (by grind)
  rw [val_4585326749603112614, val_13813525256620716304, val_4606794069116791646] at b1 b2
  unfold u at r1 r2 g1 g2 b1 b2
  refine ⟨x, z, r, g, b, ex, ez, er, eg, eb, fr, fg, fb, ?_⟩
  clear hM hp X1 X2 Z1 Z2 bx bz
  refine ⟨?_, ?_, ?_, ?_, ?_, ?_⟩
  · clear g1 g2 b1 b2; grind
  · clear g1 g2 b1 b2; grind
  · clear r1 r2 b1 b2; grind
  · clear r1 r2 b1 b2; grind
  · clear r1 r2 g1 g2; grind
  · clear r1 r2 g1 g2; grind
theorem close_ok (r' r tol : Nat) (m : Rat) (fr' : Finite r') (fr : Finite r) (ft : Finite tol) (hm0 : 0 ≤ m) (hm : m ≤ (10 ^ 201 : Rat))
    (h3 : -(m * (1 / 1000000000) + (1 / 10 ^ 310)) ≤ val r' - val r) (h4 : val r' - val r ≤ m * (1 / 1000000000) + (1 / 10 ^ 310)) (ht : m * (1 / 20000000) + (1 / 10 ^ 305) ≤ val tol) :
    ∃ d, floatBits .sub .f64 r' r = some d ∧ leB (absW d) tol = true := by
  have hp := p2_big
  have hM := hbnd m hm
  obtain ⟨d, e, fd, bd⟩ := sub_ok r' r fr' fr (by grind) (by grind)
  obtain ⟨d1, d2⟩ := bd (m * (1 / 1000000000) + (1 / 10 ^ 310)) h3 h4
  unfold u at d1 d2
  obtain ⟨fa, -, -, -, hv⟩ := absW_ok fd
  refine ⟨d, e, ?_⟩
  rw [leB_ok fa ft]
  clear hp bd hM
  rcases hv with hv | hv <;> rw [hv] <;> simp only [decide_eq_true_eq] <;> grind
theorem final (c : Nat) (q : c < 2 ^ 64) (h : tameB c = true) :
    ∃ x z r g b d0 d1 d2 s1 tol, floatBits .mul .f64 c 4606736165463080392 = some x ∧ floatBits .mul .f64 c 4607583499253154051 = some z ∧ Mat.row3 4612797274681751849 13829936414229251323 13824298249327843042 x c z = some r ∧ Mat.row3 13829018628828503116 4610617152377875984 4582466573495113356 x c z = some g ∧ Mat.row3 4585326749603112614 13813525256620716304 4606794069116791646 x c z = some b ∧ floatBits .sub .f64 r c = some d0 ∧ floatBits .sub .f64 g c = some d1 ∧ floatBits .sub .f64 b c = some d2 ∧
      floatBits .mul .f64 4502148214488346440 (absW c) = some s1 ∧ floatBits .add .f64 s1 118622047889322841 = some tol ∧
      leB (absW d0) tol = true ∧ leB (absW d1) tol = true ∧ leB (absW d2) tol = true := by
  unfold tameB at h
  simp only [Bool.and_eq_true] at h
  obtain ⟨fc, c1, c2⟩ := finite_between q fin_16822324602022093402 fin_7598952565167317594 h.2 h.1.2
  rw [val_16822324602022093402] at c1
  rw [val_7598952565167317594] at c2
  obtain ⟨fa, a0, a1, a2, a3⟩ := absW_ok fc
  have hM : val (absW c) ≤ 10 ^ 201 := by grind
  clear c1 c2 a3
  obtain ⟨x, z, r, g, b, eX, eZ, eR, eG, eB, fr, fg, fb, n1, n2, n3, n4, n5, n6⟩ := core c fc (val (absW c)) hM (by grind) a1
  have hp := p2_big
  have hb := hbnd _ hM
  have he := eta_small
  have he0 := eta_pos
  have h1000 : (1 : Rat) ≤ 2 ^ 1000 := by decide +kernel
  obtain ⟨s1, es, fs, bs⟩ := mul_ok 4502148214488346440 (absW c) fin_4502148214488346440 fa (by rw [val_4502148214488346440]; grind) (by rw [val_4502148214488346440]; grind)
  rw [val_4502148214488346440] at bs
  generalize val (absW c) = m at *
  obtain ⟨s2, s3⟩ := bs (2 * m) (by grind) (by grind)
  unfold u at s2 s3
  have S1 : (9 / 100000000) * m - eta ≤ val s1 := by clear hp hb; grind
  have S2 : val s1 ≤ m + eta := by clear hp hb; grind
  clear bs s2 s3
  obtain ⟨tol, et, ft, bt⟩ := add_ok s1 118622047889322841 fs fin_118622047889322841 (by rw [val_118622047889322841]; grind) (by rw [val_118622047889322841]; grind)
  rw [val_118622047889322841] at bt
  obtain ⟨t2, t3⟩ := bt (val s1 + 2 * eta + 11 / 10 ^ 301) (by grind) (by grind)
  unfold u at t2 t3
  have ht : m * (1 / 20000000) + (1 / 10 ^ 305) ≤ val tol := by clear hp hb; grind
  obtain ⟨d0, e0, l0⟩ := close_ok r c tol m fr fc ft a0 hM n1 n2 ht
  obtain ⟨d1, e1, l1⟩ := close_ok g c tol m fg fc ft a0 hM n3 n4 ht
  obtain ⟨d2, e2, l2⟩ := close_ok b c tol m fb fc ft a0 hM n5 n6 ht
  exact ⟨x, z, r, g, b, d0, d1, d2, s1, tol, eX, eZ, eR, eG, eB, e0, e1, e2, es, et, l0, l1, l2⟩

set_option maxRecDepth 100000 in
set_option maxHeartbeats 4000000 in
/-- THE WALK -/
theorem walk (a0 : Nat) (w : World) (w0 : (Lit.float .f64 a0).wf = true) :
    Calls Try.prog 4 #[.float .f64 a0] w fun e w' => e = .returned (.bool true) ∧ Below w.heap.size w w' := by
  have q0 : a0 < 2 ^ 64 := by simpa [Lit.wf] using w0
  clear w0
  cases h : tameB a0 with
  | false =>
    go_enter Try.func4, Try.ntmps4
    go_wp2_with fail
    refine (tame_any a0 _).mono ?_
    rintro e w' ⟨rfl, rfl⟩
    rw [h]
    clear h
    go_wp2
    go_ret
    exact ⟨rfl, Below.refl _ _⟩
  | true =>
    obtain ⟨x, z, r, g, b, d0, d1, d2, s1, tol, eX, eZ, eR, eG, eB, k0, k1, k2, t1, t2, l0, l1, l2⟩ := final a0 q0 h
    have H := Lib.hid (And.intro eR (And.intro eG eB))
    have o0 : (FloatKind.f64.format.order (absW d0) tol == some .lt || FloatKind.f64.format.order (absW d0) tol == some .eq) = true := l0
    have o1 : (FloatKind.f64.format.order (absW d1) tol == some .lt || FloatKind.f64.format.order (absW d1) tol == some .eq) = true := l1
    have o2 : (FloatKind.f64.format.order (absW d2) tol == some .lt || FloatKind.f64.format.order (absW d2) tol == some .eq) = true := l2
    clear eR eG eB l0 l1 l2 q0
    have m1 : ∀ w, (binOp .mul 22 (.float .f64 4502148214488346440) (.float .f64 (absW a0))).run Try.prog w = .ok (.float .f64 s1) w := fun w => run_float_arith w .mul 22 .f64 _ _ _ t1
    have m2 : ∀ w, (binOp .add 22 (.float .f64 s1) (.float .f64 118622047889322841)).run Try.prog w = .ok (.float .f64 tol) w := fun w => run_float_arith w .add 22 .f64 _ _ _ t2
    have m3 : ∀ w, (binOp .mul 22 (.float .f64 a0) (.float .f64 4606736165463080392)).run Try.prog w = .ok (.float .f64 x) w := fun w => run_float_arith w .mul 22 .f64 _ _ _ eX
    have m4 : ∀ w, (binOp .mul 22 (.float .f64 a0) (.float .f64 4607583499253154051)).run Try.prog w = .ok (.float .f64 z) w := fun w => run_float_arith w .mul 22 .f64 _ _ _ eZ
    have m5 : ∀ w, (binOp .sub 22 (.float .f64 r) (.float .f64 a0)).run Try.prog w = .ok (.float .f64 d0) w := fun w => run_float_arith w .sub 22 .f64 _ _ _ k0
    have m6 : ∀ w, (binOp .sub 22 (.float .f64 g) (.float .f64 a0)).run Try.prog w = .ok (.float .f64 d1) w := fun w => run_float_arith w .sub 22 .f64 _ _ _ k1
    have m7 : ∀ w, (binOp .sub 22 (.float .f64 b) (.float .f64 a0)).run Try.prog w = .ok (.float .f64 d2) w := fun w => run_float_arith w .sub 22 .f64 _ _ _ k2
    clear eX eZ t1 t2 k0 k1 k2
    go_enter Try.func4, Try.ntmps4
    go_wp2_with fail
    refine (tame_any a0 _).mono ?_
    rintro e w' ⟨rfl, rfl⟩
    rw [h]
    clear h
    go_wp2_with fail
    refine (zz_any x a0 z r g b (xyz_to_lin_p3_any x a0 z r g b H.out.1 H.out.2.1 H.out.2.2) _).mono ?_
    rintro e w2 ⟨rfl, b2⟩
    go_wp2_with fail
    refine (zzAbs_any a0 _).mono ?_
    rintro e w' ⟨rfl, rfl⟩
    go_wp2_with fail
    refine (zzAbs_any d0 _).mono ?_
    rintro e w' ⟨rfl, rfl⟩
    go_wp2_with fail
    refine (zzAbs_any d1 _).mono ?_
    rintro e w' ⟨rfl, rfl⟩
    go_wp2_with fail
    refine (zzAbs_any d2 _).mono ?_
    rintro e w' ⟨rfl, rfl⟩
    go_wp2
    go_ret
    exact ⟨rfl, b2⟩

set_option maxRecDepth 100000 in
theorem lifted (os : Os) (started : os.Started) (H : Type) (enc : TypeId × Value → H) :
    ReturnsInHanded {} Try.checked os 4 .any (Rows.fnXyzToLinP3MapsD65GraysToEqualChannelsSpec.pre6 enc Try.prog Try.f4 Rows.fnXyzToLinP3MapsD65GraysToEqualChannelsRow.domain false) (Rows.fnXyzToLinP3MapsD65GraysToEqualChannelsSpec.post enc Try.prog Try.f4 false true false false) := by
  refine returnsInHanded_of_change (C := Try.checked) own started (by kernel_rfl) Try.func4
    (ChangeSpec.witness6 (enc := enc) (C := Try.checked) false ⟨#[], #[.float .f64 0], []⟩ 8 (by kernel_rfl) (by kernel_rfl) (by kernel_rfl) (by kernel_rfl)) ?_
  intro W base args ds gs before hval0 hW hcnd _
  have hval : ∀ (j : Nat) t v, Try.f4.params[j]? = some t → args[j]? = some v → Value.okWide Try.prog W .any base t v := hval0
  have hW' := hW
  obtain ⟨p, q, hA0, hV, rfl, hfz, hnd⟩ := hW
  have hA : DataW.TrodAll enc Try.prog W 0 (fun _ => true) true Try.f4.params.toList args.toList ds p := hA0
  rw [Try.params4] at hA hval
  obtain ⟨v0, vs0, d0, ds0, p0, q0, hargs, rfl, rfl, h0, r0⟩ := trodAll_cons hA
  obtain ⟨rfl, rfl, rfl⟩ := trodAll_nil r0
  obtain rfl : args = #[v0] := by cases args; simp_all
  obtain ⟨rfl, rfl⟩ := trodVars_none hV
  obtain ⟨a0, rfl, rfl, rfl, w0⟩ := open_float Try.underlying22 (hval 0 22 v0 rfl rfl) h0
  clear hA0 hval0
  refine (walk a0 W w0).mono fun e W' ⟨he, bel⟩ => ?_
  subst he
  exact ⟨_, rfl, _, _, _, [], _, [], hW', trodAll_mk1 (shut_bool Try.underlying4 _), (trodAll_cons_mk (shut_float Try.underlying22 w0) trodAll_mk0), rfl, bel.frame _, fun h => by cases h⟩

theorem over : Rows.fnXyzToLinP3MapsD65GraysToEqualChannelsRow.holds Try.pinned (OpenSpec.ofChange Rows.fnXyzToLinP3MapsD65GraysToEqualChannelsSpec) :=
  OpenClaim.holds_of_wide 4 Try.f4 rfl rfl rfl rfl rfl rfl rfl ⟨rfl, rfl, rfl, rfl, rfl⟩ rfl rfl rfl rfl rfl (by kernel_rfl) Try.func4 (by kernel_rfl)
    (of_decide_eq_true (by kernel_rfl)) (by unfold Func.isWrapper; first | (rw [if_pos (by decide +kernel)]; kernel_rfl) | (rw [if_neg (by decide +kernel)]; exact ⟨rfl, rfl⟩))
    (fun os started H enc _ => lifted os started H enc)

/-- THE STATEMENT -/
theorem proved : Rows.FnXyzToLinP3MapsD65GraysToEqualChannelsSaid := over
#print axioms proved
end Go.Proofs.Ythjgigahhooilaa.fnXyzToLinP3MapsD65GraysToEqualChannels
