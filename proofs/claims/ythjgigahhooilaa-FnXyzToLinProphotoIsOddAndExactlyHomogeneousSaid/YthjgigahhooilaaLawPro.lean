/-
  For finite x, y, z of magnitude at most 1e300 xyz_to_lin_prophoto is odd; where each input is zero or of magnitude between 2^-900 and 2^900, it is exactly doubled with its input: the Go law FnXyzToLinProphotoIsOddAndExactlyHomogeneous returns true for every input. No condition.
-/
import Derived.Test.YthjgigahhooilaaRows
import Derived.WalkKit
import Derived.ProofKit
import Derived.OpenShut
import Derived.ShutString
import Derived.ChangeOld
import Derived.Below
import Derived.Lib.Hide
import Derived.Outline
import Derived.Laws.Cover2
import Derived.Test.YthjgigahhooilaaWrap
import Derived.Test.YthjgigahhooilaaFLD
namespace Go.Proofs.Ythjgigahhooilaa.fnXyzToLinProphotoIsOddAndExactlyHomogeneous
open Go.ChangeShapes Go.WideShapes Go.ChangeAt Go.RowKit
open Go.ChangeMaps (open_string shut_string)
set_option linter.unusedVariables false

theorem own : ownKnob Try.prog.godebug = none := by kernel_rfl
theorem laidOut : laidOutB Try.prog = true := by kernel_rfl

open FL Mat
theorem run_neg (x : Nat) (w : World) : (Op.unary .neg (.float .f64 x)).run Try.prog w = .ok (.float .f64 (flip x)) w := rfl
set_option maxHeartbeats 400000 in
theorem zzAbs_any (x : Nat) (w : World) : Calls Try.prog 41 #[.float .f64 x] w fun e w' => e = .returned (.float .f64 (absW x)) ∧ w = w' := by
  cases h1 : ltB x 0 with
  | false =>
    have g : absW x = x := by unfold absW; rw [h1]; rfl
    have h2 : (FloatKind.f64.format.order x 0 == some .lt) = false := h1
    rw [g]
    clear h1
    go_enter Try.func41, Try.ntmps41
    go_wp2
    go_ret
    exact ⟨rfl, rfl⟩
  | true =>
    have g : absW x = flip x := by unfold absW; rw [h1]; rfl
    have hn := fun w => run_neg x w
    have h2 : (FloatKind.f64.format.order x 0 == some .lt) = true := h1
    rw [g]
    clear h1
    go_enter Try.func41, Try.ntmps41
    go_wp2
    go_ret
    exact ⟨rfl, rfl⟩
theorem row3_all (a b c x y z : Nat) (fa : Finite a) (fb : Finite b) (fc : Finite c) (fx : Finite x) (fy : Finite y) (fz : Finite z) (mx my mz : Rat)
    (m1 : -mx ≤ val x * val a) (m2 : val x * val a ≤ mx) (m3 : -my ≤ val y * val b) (m4 : val y * val b ≤ my) (m5 : -mz ≤ val z * val c) (m6 : val z * val c ≤ mz)
    (hM : mx + my + mz ≤ 2 ^ 1000) :
    ∃ p q s t r, Ieee.double.mul x a = some p ∧ Ieee.double.mul y b = some q ∧ Ieee.double.add p q = some s ∧ Ieee.double.mul z c = some t ∧ Ieee.double.add s t = some r ∧ (Finite p ∧ Finite q ∧ Finite s ∧ Finite t ∧ Finite r) ∧ (-(2 * (mx + my + mz) + 4 * eta) ≤ val p + val q ∧ val p + val q ≤ 2 * (mx + my + mz) + 4 * eta) ∧ (-(2 * (mx + my + mz) + 4 * eta) ≤ val s + val t ∧ val s + val t ≤ 2 * (mx + my + mz) + 4 * eta) ∧ (-(3 * (mx + my + mz) + 5 * eta) ≤ val r ∧ val r ≤ 3 * (mx + my + mz) + 5 * eta) := by
  have hbig := p2_big
  have he := eta_le
  have he0 := Rat.le_of_lt eta_pos
  have h1000 : (1 : Rat) ≤ 2 ^ 1000 := by decide +kernel
  obtain ⟨p, ep, fp, bp⟩ := mul_ok x a fx fa (by grind) (by grind)
  obtain ⟨p1, p2'⟩ := bp mx m1 m2
  obtain ⟨q, eq, fq, bq⟩ := mul_ok y b fy fb (by grind) (by grind)
  obtain ⟨q1, q2⟩ := bq my m3 m4
  obtain ⟨t, et, ft, bt⟩ := mul_ok z c fz fc (by grind) (by grind)
  obtain ⟨t1, t2⟩ := bt mz m5 m6
  have hu : u ≤ 1 / 2 := by unfold u; grind
  have hu0 : 0 ≤ u := by unfold u; grind
  have um : ∀ m : Rat, 0 ≤ m → u * m ≤ 1 / 2 * m := fun m hm => Rat.mul_le_mul_of_nonneg_right hu hm
  have ux := um mx (by grind)
  have uy := um my (by grind)
  have uz := um mz (by grind)
  obtain ⟨s, es, fs, bs⟩ := add_ok p q fp fq (by grind) (by grind)
  obtain ⟨s1, s2⟩ := bs (mx + my + (u * mx + eta) + (u * my + eta)) (by grind) (by grind)
  have us := um (mx + my + (u * mx + eta) + (u * my + eta)) (by
    have := Rat.mul_nonneg hu0 (show (0 : Rat) ≤ mx by grind)
    have := Rat.mul_nonneg hu0 (show (0 : Rat) ≤ my by grind)
    grind)
  have hst : -(2 * (mx + my + mz) + 4 * eta) ≤ val s + val t ∧ val s + val t ≤ 2 * (mx + my + mz) + 4 * eta := by
    have v1 : u * mx ≤ 1 / 1000 * mx := Rat.mul_le_mul_of_nonneg_right (by unfold u; grind) (by grind)
    have v2 : u * my ≤ 1 / 1000 * my := Rat.mul_le_mul_of_nonneg_right (by unfold u; grind) (by grind)
    have v3 : u * mz ≤ 1 / 1000 * mz := Rat.mul_le_mul_of_nonneg_right (by unfold u; grind) (by grind)
    have v4 : u * (mx + my + (u * mx + eta) + (u * my + eta)) ≤ 1 / 1000 * (mx + my + (u * mx + eta) + (u * my + eta)) := Rat.mul_le_mul_of_nonneg_right (by unfold u; grind) (by
      have := Rat.mul_nonneg hu0 (show (0 : Rat) ≤ mx by grind)
      have := Rat.mul_nonneg hu0 (show (0 : Rat) ≤ my by grind)
      grind)
    generalize u * (mx + my + (u * mx + eta) + (u * my + eta)) = U at *
    generalize u * mx = U1 at *
    generalize u * my = U2 at *
    generalize u * mz = U3 at *
    clear hbig h1000 bp bq bt bs um ux uy uz us
    constructor <;> grind
  obtain ⟨r, er, fr, br⟩ := add_ok s t fs ft (by grind) (by grind)
  obtain ⟨r1, r2⟩ := br (2 * (mx + my + mz) + 4 * eta) hst.1 hst.2
  refine ⟨p, q, s, t, r, ep, eq, es, et, er, ⟨fp, fq, fs, ft, fr⟩, ⟨by grind, by grind⟩, hst, ?_⟩
  have w1 : u * (2 * (mx + my + mz) + 4 * eta) ≤ 1 / 1000 * (2 * (mx + my + mz) + 4 * eta) := Rat.mul_le_mul_of_nonneg_right (by unfold u; grind) (by grind)
  obtain ⟨h1, h2⟩ := hst
  generalize u * (2 * (mx + my + mz) + 4 * eta) = U at *
  clear hbig h1000 bp bq bt bs br um ux uy uz us
  constructor <;> grind
theorem row3_neg {a b c x y z x' y' z' p q s t r p' q' s' t' r' : Nat} (fa : Finite a) (fb : Finite b) (fc : Finite c) (fx : Finite x) (fy : Finite y) (fz : Finite z) (fx' : Finite x') (fy' : Finite y') (fz' : Finite z')
    (hx : val x' = -val x) (hy : val y' = -val y) (hz : val z' = -val z)
    (f : Finite p ∧ Finite q ∧ Finite s ∧ Finite t ∧ Finite r) (f' : Finite p' ∧ Finite q' ∧ Finite s' ∧ Finite t' ∧ Finite r')
    (e1 : Ieee.double.mul x a = some p) (e2 : Ieee.double.mul y b = some q) (e3 : Ieee.double.add p q = some s) (e4 : Ieee.double.mul z c = some t) (e5 : Ieee.double.add s t = some r)
    (e1' : Ieee.double.mul x' a = some p') (e2' : Ieee.double.mul y' b = some q') (e3' : Ieee.double.add p' q' = some s') (e4' : Ieee.double.mul z' c = some t') (e5' : Ieee.double.add s' t' = some r') : val r' = -val r := by
  have h1 := FL.mul_neg fx fa fx' fa e1 e1' (by rw [hx]; grind)
  have h2 := FL.mul_neg fy fb fy' fb e2 e2' (by rw [hy]; grind)
  have h3 := FL.add_neg f.1 f.2.1 f'.1 f'.2.1 e3 e3' (by rw [h1, h2]; grind)
  have h4 := FL.mul_neg fz fc fz' fc e4 e4' (by rw [hz]; grind)
  exact FL.add_neg f.2.2.1 f.2.2.2.1 f'.2.2.1 f'.2.2.2.1 e5 e5' (by rw [h3, h4]; grind)
theorem row3_dbl {a b c x y z x' y' z' p q s t r p' q' s' t' r' : Nat} (fa : Finite a) (fb : Finite b) (fc : Finite c) (fx : Finite x) (fy : Finite y) (fz : Finite z) (fx' : Finite x') (fy' : Finite y') (fz' : Finite z')
    (hx : val x' = 2 * val x) (hy : val y' = 2 * val y) (hz : val z' = 2 * val z)
    (f : Finite p ∧ Finite q ∧ Finite s ∧ Finite t ∧ Finite r) (f' : Finite p' ∧ Finite q' ∧ Finite s' ∧ Finite t' ∧ Finite r')
    (e1 : Ieee.double.mul x a = some p) (e2 : Ieee.double.mul y b = some q) (e3 : Ieee.double.add p q = some s) (e4 : Ieee.double.mul z c = some t) (e5 : Ieee.double.add s t = some r)
    (e1' : Ieee.double.mul x' a = some p') (e2' : Ieee.double.mul y' b = some q') (e3' : Ieee.double.add p' q' = some s') (e4' : Ieee.double.mul z' c = some t') (e5' : Ieee.double.add s' t' = some r')
    (M : Rat) (hM : M ≤ p2 1022) (m1 : -M < val x * val a) (m2 : val x * val a < M) (m3 : -M < val y * val b) (m4 : val y * val b < M) (m5 : -M < val z * val c) (m6 : val z * val c < M)
    (s1 : -M < val p + val q) (s2 : val p + val q < M) (s3 : -M < val s + val t) (s4 : val s + val t < M)
    (cx : val x * val a = 0 ∨ p2 (-1022) ≤ val x * val a ∨ val x * val a ≤ -p2 (-1022)) (cy : val y * val b = 0 ∨ p2 (-1022) ≤ val y * val b ∨ val y * val b ≤ -p2 (-1022)) (cz : val z * val c = 0 ∨ p2 (-1022) ≤ val z * val c ∨ val z * val c ≤ -p2 (-1022)) : val r' = 2 * val r := by
  have h1 := mul_dbl fx fa fx' fa e1 e1' (by rw [hx]; grind) M hM m1 m2 cx
  have h2 := mul_dbl fy fb fy' fb e2 e2' (by rw [hy]; grind) M hM m3 m4 cy
  have h3 := add_dbl f.1 f.2.1 f'.1 f'.2.1 e3 e3' (by rw [h1, h2]; grind) M hM s1 s2
  have h4 := mul_dbl fz fc fz' fc e4 e4' (by rw [hz]; grind) M hM m5 m6 cz
  exact add_dbl f.2.2.1 f.2.2.2.1 f'.2.2.1 f'.2.2.2.1 e5 e5' (by rw [h3, h4]; grind) M hM s3 s4
theorem two_form : Ieee.double.read 4611686018427387904 = .number false (2 ^ 52) (-51) := by decide +kernel
/-- twice a word is exact -/
theorem dbl_exact {x : Nat} (fx : Finite x) (M : Rat) (hM : M ≤ p2 1022) (h1 : -M < val x) (h2 : val x < M) : ∃ r, floatBits .mul .f64 4611686018427387904 x = some r ∧ Finite r ∧ val r = 2 * val x := by
  obtain ⟨s, m, i, hr, hm, hi, -⟩ := read_fin x fx
  have hv : val x = sg s * ((m : Rat) * p2 i) := by simp [val, hr, dval]
  rw [hv] at h1 h2
  have hlt : (m : Rat) * p2 i < p2 1022 := by
    have := abs_sg s _ M h1 h2
    grind
  have hdd : (m : Rat) * p2 (i + 1) = 2 * ((m : Rat) * p2 i) := by rw [p2_add, p2_one]; grind
  have h1023 := half_p2 1023
  rw [show (1023 - 1 : Int) = 1022 from rfl] at h1023
  have hlt2 : (m : Rat) * p2 (i + 1) < p2 1023 := by rw [hdd]; grind
  have hii : -1074 ≤ i + 1 := by clear hlt h1023 hlt2 hM; omega
  have f1 := (nearest_exact s m (i + 1) hlt2 hii hm).1
  have v1 := (nearest_exact s m (i + 1) hlt2 hii hm).2
  clear hlt h1023 hlt2 hM
  have e2 : ((2 ^ 52 * m : Nat) : Rat) * p2 (-51 + i) = (m : Rat) * p2 (i + 1) := by
    rw [Nat.mul_comm, nat_p2]; congr 2; omega
  have hE : Ieee.double.mul 4611686018427387904 x = some (Ieee.double.nearest s m (i + 1)) := by
    unfold Ieee.Format.mul
    rw [two_form, hr]
    simp only [Ieee.Datum.product, Option.map, Ieee.Format.write, Bool.false_xor]
    rw [nearest_word, nearest_word, rungOf_congr _ _ _ _ e2]
  refine ⟨_, hE, f1, ?_⟩
  rw [v1, hv, hdd]; grind
theorem val_9094988921128908188 : FL.val 9094988921128908188 = (1000000000000000052504760255204420248704468581108159154915854115511802457988908195786371375080447864043704443832883878176942523235360430575644792184786706982848387200926575803737830233794788090059368953234970799945081119038967640880074652742780142494579258788820056842838115669472196386865459400540160 : Rat) := by decide +kernel
theorem fin_9094988921128908188 : FL.Finite 9094988921128908188 := by decide +kernel
theorem val_4608739758926428405 : FL.val 4608739758926428405 = (6060939753781493 : Rat) / 4503599627370496 := by decide +kernel
theorem fin_4608739758926428405 : FL.Finite 4608739758926428405 := by decide +kernel
theorem val_13821647778546615692 : FL.val 13821647778546615692 = (-1151030443483491 : Rat) / 4503599627370496 := by decide +kernel
theorem fin_13821647778546615692 : FL.Finite 13821647778546615692 := by decide +kernel
theorem val_13810898049774936208 : FL.val 13810898049774936208 = (-460324492772873 : Rat) / 9007199254740992 := by decide +kernel
theorem fin_13810898049774936208 : FL.Finite 13810898049774936208 := by decide +kernel
theorem val_13826452779721249017 : FL.val 13826452779721249017 = (-4905523321196793 : Rat) / 9007199254740992 := by decide +kernel
theorem fin_13826452779721249017 : FL.Finite 13826452779721249017 := by decide +kernel
theorem val_4609471295584413373 : FL.val 4609471295584413373 = (6792476411766461 : Rat) / 4503599627370496 := by decide +kernel
theorem fin_4609471295584413373 : FL.Finite 4609471295584413373 := by decide +kernel
theorem val_4581576329749283875 : FL.val 4581576329749283875 = (5919108340859939 : Rat) / 288230376151711744 := by decide +kernel
theorem fin_4581576329749283875 : FL.Finite 4581576329749283875 := by decide +kernel
theorem val_0 : FL.val 0 = (0 : Rat) := by decide +kernel
theorem fin_0 : FL.Finite 0 := by decide +kernel
theorem val_4608137035759571601 : FL.val 4608137035759571601 = (5458216586924689 : Rat) / 4503599627370496 := by decide +kernel
theorem fin_4608137035759571601 : FL.Finite 4608137035759571601 := by decide +kernel
theorem val_lo : val 553942754166571008 = p2 (-900) := by unfold p2; decide +kernel
theorem fin_lo : Finite 553942754166571008 := by decide +kernel
theorem val_hi : val 8660422083433463808 = p2 900 := by unfold p2; decide +kernel
theorem fin_hi : Finite 8660422083433463808 := by decide +kernel
def ordB (x : Nat) : Bool := eqB x x && leB (absW x) 9094988921128908188
set_option maxHeartbeats 1000000 in
theorem ord_any (x : Nat) (w : World) : Calls Try.prog 26 #[.float .f64 x] w fun e w' => e = .returned (.bool (ordB x)) ∧ w = w' := by
  cases h1 : eqB x x with
  | false =>
    have g : ordB x = false := by unfold ordB; rw [h1]; rfl
    have t1 : (FloatKind.f64.format.order x x == some .eq) = false := h1
    rw [g]
    clear h1 g
    go_enter Try.func26, Try.ntmps26
    go_wp2
    go_ret
    exact ⟨rfl, rfl⟩
  | true =>
    have g : ordB x = leB (absW x) 9094988921128908188 := by unfold ordB; rw [h1]; rfl
    have t1 : (FloatKind.f64.format.order x x == some .eq) = true := h1
    cases h2 : leB (absW x) 9094988921128908188 with
    | false =>
      have t2 : (FloatKind.f64.format.order (absW x) 9094988921128908188 == some .lt || FloatKind.f64.format.order (absW x) 9094988921128908188 == some .eq) = false := h2
      rw [g, h2]
      clear h1 h2 g
      go_enter Try.func26, Try.ntmps26
      go_wp2_with fail
      refine (zzAbs_any x _).mono ?_
      rintro e w' ⟨rfl, rfl⟩
      go_wp2
      go_ret
      exact ⟨rfl, rfl⟩
    | true =>
      have t2 : (FloatKind.f64.format.order (absW x) 9094988921128908188 == some .lt || FloatKind.f64.format.order (absW x) 9094988921128908188 == some .eq) = true := h2
      rw [g, h2]
      clear h1 h2 g
      go_enter Try.func26, Try.ntmps26
      go_wp2_with fail
      refine (zzAbs_any x _).mono ?_
      rintro e w' ⟨rfl, rfl⟩
      go_wp2
      go_ret
      exact ⟨rfl, rfl⟩
def bandB (x : Nat) : Bool := eqB x 0 || (geB (absW x) 553942754166571008 && leB (absW x) 8660422083433463808)
set_option maxHeartbeats 1000000 in
theorem band_any (x : Nat) (w : World) : Calls Try.prog 28 #[.float .f64 x] w fun e w' => e = .returned (.bool (bandB x)) ∧ w = w' := by
  cases h1 : eqB x 0 with
  | true =>
    have g : bandB x = true := by unfold bandB; rw [h1]; rfl
    have t1 : (FloatKind.f64.format.order x 0 == some .eq) = true := h1
    rw [g]
    clear h1 g
    go_enter Try.func28, Try.ntmps28
    go_wp2_with fail
    refine (zzAbs_any x _).mono ?_
    rintro e w' ⟨rfl, rfl⟩
    go_wp2
    go_ret
    exact ⟨rfl, rfl⟩
  | false =>
    have t1 : (FloatKind.f64.format.order x 0 == some .eq) = false := h1
    cases h2 : geB (absW x) 553942754166571008 with
    | false =>
      have g : bandB x = false := by unfold bandB; rw [h1, h2]; rfl
      have t2 : (FloatKind.f64.format.order (absW x) 553942754166571008 == some .gt || FloatKind.f64.format.order (absW x) 553942754166571008 == some .eq) = false := h2
      rw [g]
      clear h1 h2 g
      go_enter Try.func28, Try.ntmps28
      go_wp2_with fail
      refine (zzAbs_any x _).mono ?_
      rintro e w' ⟨rfl, rfl⟩
      go_wp2
      go_ret
      exact ⟨rfl, rfl⟩
    | true =>
      have t2 : (FloatKind.f64.format.order (absW x) 553942754166571008 == some .gt || FloatKind.f64.format.order (absW x) 553942754166571008 == some .eq) = true := h2
      cases h3 : leB (absW x) 8660422083433463808 with
      | false =>
        have g : bandB x = false := by unfold bandB; rw [h1, h2, h3]; rfl
        have t3 : (FloatKind.f64.format.order (absW x) 8660422083433463808 == some .lt || FloatKind.f64.format.order (absW x) 8660422083433463808 == some .eq) = false := h3
        rw [g]
        clear h1 h2 h3 g
        go_enter Try.func28, Try.ntmps28
        go_wp2_with fail
        refine (zzAbs_any x _).mono ?_
        rintro e w' ⟨rfl, rfl⟩
        go_wp2
        go_ret
        exact ⟨rfl, rfl⟩
      | true =>
        have g : bandB x = true := by unfold bandB; rw [h1, h2, h3]; rfl
        have t3 : (FloatKind.f64.format.order (absW x) 8660422083433463808 == some .lt || FloatKind.f64.format.order (absW x) 8660422083433463808 == some .eq) = true := h3
        rw [g]
        clear h1 h2 h3 g
        go_enter Try.func28, Try.ntmps28
        go_wp2_with fail
        refine (zzAbs_any x _).mono ?_
        rintro e w' ⟨rfl, rfl⟩
        go_wp2
        go_ret
        exact ⟨rfl, rfl⟩
theorem absW_inf {x : Nat} (h : Inf x) : absW x = 2047 * 2 ^ 52 := by
  have hx := h.2
  have h1 := h.1
  unfold absW ltB Ieee.Format.order
  rw [read_inf x h.2, read_lo 0 (by decide)]
  simp only [Ieee.Datum.order]
  cases hb : (x / 2 ^ 63 % 2 == 1)
  · simp only [Bool.false_eq_true, if_false]
    have : x / 2 ^ 63 % 2 ≠ 1 := by simpa using hb
    rw [if_neg (by decide)]
    omega
  · simp only [if_true]
    have : x / 2 ^ 63 % 2 = 1 := by simpa using hb
    rw [if_pos (by decide), flip_eq x h1, if_neg (by omega)]
    omega
theorem ord_ok {x : Nat} (hx : x < 2 ^ 64) (h : ordB x = true) : Finite x ∧ -(11 * 10 ^ 299 : Rat) ≤ val x ∧ val x ≤ 11 * 10 ^ 299 := by
  unfold ordB at h
  simp only [Bool.and_eq_true] at h
  rcases classes x hx with f | f | f
  · obtain ⟨fa, a0, a1, a2, -⟩ := absW_ok f
    have h2 := h.2
    rw [leB_ok fa fin_9094988921128908188, val_9094988921128908188] at h2
    simp only [decide_eq_true_eq] at h2
    exact ⟨f, by grind, by grind⟩
  · exfalso
    have h2 := h.2
    rw [absW_inf f] at h2
    revert h2
    decide +kernel
  · exfalso
    have h1 := h.1
    unfold eqB at h1
    rw [nan_order_l f] at h1
    simp at h1
theorem band_ok {x : Nat} (f : Finite x) (h : bandB x = true) : (val x = 0 ∨ p2 (-900) ≤ val x ∨ val x ≤ -p2 (-900)) ∧ -p2 900 ≤ val x ∧ val x ≤ p2 900 := by
  unfold bandB at h
  simp only [Bool.or_eq_true, Bool.and_eq_true] at h
  have hp := p2_pos 900
  rcases h with h | ⟨h1, h2⟩
  · rw [eqB_ok f fin_zero, val_zero] at h
    simp only [decide_eq_true_eq] at h
    exact ⟨.inl h, by grind, by grind⟩
  · obtain ⟨fa, a0, a1, a2, a3⟩ := absW_ok f
    rw [geB_ok fa fin_lo, val_lo] at h1
    rw [leB_ok fa fin_hi, val_hi] at h2
    simp only [decide_eq_true_eq] at h1 h2
    refine ⟨?_, by grind, by grind⟩
    rcases a3 with a3 | a3
    · exact .inr (.inl (by grind))
    · exact .inr (.inr (by grind))
theorem row3_of {a b c x y z p q s t r : Nat} (e1 : Ieee.double.mul x a = some p) (e2 : Ieee.double.mul y b = some q) (e3 : Ieee.double.add p q = some s) (e4 : Ieee.double.mul z c = some t) (e5 : Ieee.double.add s t = some r) : Mat.row3 a b c x y z = some r := by
  simp [Mat.row3, e1, e2, e3, e4, e5]
theorem eq_of_val {x y : Nat} (fx : Finite x) (fy : Finite y) (h : val x = val y) : FloatKind.f64.format.order x y = some .eq := by
  have := order_ok x y fx fy
  rw [if_neg (by rw [h]; exact Rat.lt_irrefl), if_pos h] at this
  exact this
theorem big1 : (10 ^ 301 : Rat) * 4 ≤ 2 ^ 1000 * 4 := by decide +kernel
theorem bnd : 100 * (1 : Rat) ≤ 2 ^ 1000 ∧ (11 * 10 ^ 299 : Rat) * 5 / 2 ≤ 2 ^ 1000 := by decide +kernel
theorem bnd2 : p2 900 * 1000000 ≤ 2 ^ 1000 ∧ (2 : Rat) ^ 1000 * 4 ≤ p2 1022 ∧ p2 (-1022) * 1000 ≤ p2 (-900) := by
  have e1 : p2 900 = (2 : Rat) ^ 900 := Rat.zpow_natCast 2 900
  have e2 : p2 1022 = (2 : Rat) ^ 1022 := Rat.zpow_natCast 2 1022
  have e3 : p2 (-1022) * ((2 ^ 122 : Nat) : Rat) = p2 (-900) := by rw [← p2_nat, ← p2_add]; rfl
  have h3 : (1000 : Rat) ≤ ((2 ^ 122 : Nat) : Rat) := by decide +kernel
  refine ⟨by rw [e1]; decide +kernel, by rw [e2]; decide +kernel, ?_⟩
  rw [← e3]
  exact Rat.mul_le_mul_of_nonneg_left h3 (Rat.le_of_lt (p2_pos _))
set_option maxHeartbeats 4000000 in
theorem odd (x y z : Nat) (fx : Finite x) (fy : Finite y) (fz : Finite z) (m : Rat) (hm : m * 5 / 2 ≤ 2 ^ 1000) (x1 : -m ≤ val x) (x2 : val x ≤ m) (y1 : -m ≤ val y) (y2 : val y ≤ m) (z1 : -m ≤ val z) (z2 : val z ≤ m) :
    ∃ a b c a' b' c', Mat.row3 4608739758926428405 13821647778546615692 13810898049774936208 x y z = some a ∧ Mat.row3 13826452779721249017 4609471295584413373 4581576329749283875 x y z = some b ∧ Mat.row3 0 0 4608137035759571601 x y z = some c ∧ Mat.row3 4608739758926428405 13821647778546615692 13810898049774936208 (flip x) (flip y) (flip z) = some a' ∧ Mat.row3 13826452779721249017 4609471295584413373 4581576329749283875 (flip x) (flip y) (flip z) = some b' ∧ Mat.row3 0 0 4608137035759571601 (flip x) (flip y) (flip z) = some c' ∧ (Finite a ∧ Finite b ∧ Finite c) ∧ FloatKind.f64.format.order a' (flip a) = some .eq ∧ FloatKind.f64.format.order b' (flip b) = some .eq ∧ FloatKind.f64.format.order c' (flip c) = some .eq ∧
      (-(8 * m + 5) ≤ val a ∧ val a ≤ 8 * m + 5) ∧ (-(8 * m + 5) ≤ val b ∧ val b ≤ 8 * m + 5) ∧ (-(8 * m + 5) ≤ val c ∧ val c ≤ 8 * m + 5) := by
  have he := eta_le
  have he0 := Rat.le_of_lt eta_pos
  obtain ⟨X, hX⟩ : ∃ X, X = flip x := ⟨_, rfl⟩
  obtain ⟨Y, hY⟩ : ∃ Y, Y = flip y := ⟨_, rfl⟩
  obtain ⟨Z, hZ⟩ : ∃ Z, Z = flip z := ⟨_, rfl⟩
  rw [← hX, ← hY, ← hZ]
  have fX : Finite X := by rw [hX]; exact flip_fin x fx
  have fY : Finite Y := by rw [hY]; exact flip_fin y fy
  have fZ : Finite Z := by rw [hZ]; exact flip_fin z fz
  have vX : val X = -val x := by rw [hX]; exact flip_val x fx.1
  have vY : val Y = -val y := by rw [hY]; exact flip_val y fy.1
  have vZ : val Z = -val z := by rw [hZ]; exact flip_val z fz.1
  clear hX hY hZ
  obtain ⟨p0, q0, s0, t0, r0, e10, e20, e30, e40, e50, F0, P0, S0, R0⟩ := row3_all 4608739758926428405 13821647778546615692 13810898049774936208 x y z fin_4608739758926428405 fin_13821647778546615692 fin_13810898049774936208 fx fy fz ((6060939753781493 / 4503599627370496) * (m)) ((1151030443483491 / 4503599627370496) * (m)) ((460324492772873 / 9007199254740992) * (m)) (by rw [val_4608739758926428405]; grind) (by rw [val_4608739758926428405]; grind) (by rw [val_13821647778546615692]; grind) (by rw [val_13821647778546615692]; grind) (by rw [val_13810898049774936208]; grind) (by rw [val_13810898049774936208]; grind) (by grind)
  obtain ⟨p1, q1, s1, t1, r1, e11, e21, e31, e41, e51, F1, P1, S1, R1⟩ := row3_all 13826452779721249017 4609471295584413373 4581576329749283875 x y z fin_13826452779721249017 fin_4609471295584413373 fin_4581576329749283875 fx fy fz ((4905523321196793 / 9007199254740992) * (m)) ((6792476411766461 / 4503599627370496) * (m)) ((5919108340859939 / 288230376151711744) * (m)) (by rw [val_13826452779721249017]; grind) (by rw [val_13826452779721249017]; grind) (by rw [val_4609471295584413373]; grind) (by rw [val_4609471295584413373]; grind) (by rw [val_4581576329749283875]; grind) (by rw [val_4581576329749283875]; grind) (by grind)
  obtain ⟨p2, q2, s2, t2, r2, e12, e22, e32, e42, e52, F2, P2, S2, R2⟩ := row3_all 0 0 4608137035759571601 x y z fin_0 fin_0 fin_4608137035759571601 fx fy fz (0 * (m)) (0 * (m)) ((5458216586924689 / 4503599627370496) * (m)) (by rw [val_0]; grind) (by rw [val_0]; grind) (by rw [val_0]; grind) (by rw [val_0]; grind) (by rw [val_4608137035759571601]; grind) (by rw [val_4608137035759571601]; grind) (by grind)
  obtain ⟨pn0, qn0, sn0, tn0, rn0, e1n0, e2n0, e3n0, e4n0, e5n0, Fn0, Pn0, Sn0, Rn0⟩ := row3_all 4608739758926428405 13821647778546615692 13810898049774936208 X Y Z fin_4608739758926428405 fin_13821647778546615692 fin_13810898049774936208 fX fY fZ ((6060939753781493 / 4503599627370496) * (m)) ((1151030443483491 / 4503599627370496) * (m)) ((460324492772873 / 9007199254740992) * (m)) (by rw [val_4608739758926428405]; grind) (by rw [val_4608739758926428405]; grind) (by rw [val_13821647778546615692]; grind) (by rw [val_13821647778546615692]; grind) (by rw [val_13810898049774936208]; grind) (by rw [val_13810898049774936208]; grind) (by grind)
  obtain ⟨pn1, qn1, sn1, tn1, rn1, e1n1, e2n1, e3n1, e4n1, e5n1, Fn1, Pn1, Sn1, Rn1⟩ := row3_all 13826452779721249017 4609471295584413373 4581576329749283875 X Y Z fin_13826452779721249017 fin_4609471295584413373 fin_4581576329749283875 fX fY fZ ((4905523321196793 / 9007199254740992) * (m)) ((6792476411766461 / 4503599627370496) * (m)) ((5919108340859939 / 288230376151711744) * (m)) (by rw [val_13826452779721249017]; grind) (by rw [val_13826452779721249017]; grind) (by rw [val_4609471295584413373]; grind) (by rw [val_4609471295584413373]; grind) (by rw [val_4581576329749283875]; grind) (by rw [val_4581576329749283875]; grind) (by grind)
  obtain ⟨pn2, qn2, sn2, tn2, rn2, e1n2, e2n2, e3n2, e4n2, e5n2, Fn2, Pn2, Sn2, Rn2⟩ := row3_all 0 0 4608137035759571601 X Y Z fin_0 fin_0 fin_4608137035759571601 fX fY fZ (0 * (m)) (0 * (m)) ((5458216586924689 / 4503599627370496) * (m)) (by rw [val_0]; grind) (by rw [val_0]; grind) (by rw [val_0]; grind) (by rw [val_0]; grind) (by rw [val_4608137035759571601]; grind) (by rw [val_4608137035759571601]; grind) (by grind)
  have V0 := row3_neg fin_4608739758926428405 fin_13821647778546615692 fin_13810898049774936208 fx fy fz fX fY fZ vX vY vZ F0 Fn0 e10 e20 e30 e40 e50 e1n0 e2n0 e3n0 e4n0 e5n0
  have V1 := row3_neg fin_13826452779721249017 fin_4609471295584413373 fin_4581576329749283875 fx fy fz fX fY fZ vX vY vZ F1 Fn1 e11 e21 e31 e41 e51 e1n1 e2n1 e3n1 e4n1 e5n1
  have V2 := row3_neg fin_0 fin_0 fin_4608137035759571601 fx fy fz fX fY fZ vX vY vZ F2 Fn2 e12 e22 e32 e42 e52 e1n2 e2n2 e3n2 e4n2 e5n2
  refine ⟨r0, r1, r2, rn0, rn1, rn2, row3_of e10 e20 e30 e40 e50, row3_of e11 e21 e31 e41 e51, row3_of e12 e22 e32 e42 e52, row3_of e1n0 e2n0 e3n0 e4n0 e5n0, row3_of e1n1 e2n1 e3n1 e4n1 e5n1, row3_of e1n2 e2n2 e3n2 e4n2 e5n2, ⟨F0.2.2.2.2, F1.2.2.2.2, F2.2.2.2.2⟩, eq_of_val Fn0.2.2.2.2 (flip_fin _ F0.2.2.2.2) (by rw [V0, flip_val _ F0.2.2.2.2.1]), eq_of_val Fn1.2.2.2.2 (flip_fin _ F1.2.2.2.2) (by rw [V1, flip_val _ F1.2.2.2.2.1]), eq_of_val Fn2.2.2.2.2 (flip_fin _ F2.2.2.2.2) (by rw [V2, flip_val _ F2.2.2.2.2.1]), ⟨?_, ?_⟩, ⟨?_, ?_⟩, ⟨?_, ?_⟩⟩
  · have := R0.1; clear hm; grind
  · have := R0.2; clear hm; grind
  · have := R1.1; clear hm; grind
  · have := R1.2; clear hm; grind
  · have := R2.1; clear hm; grind
  · have := R2.2; clear hm; grind
set_option maxHeartbeats 4000000 in
theorem hom (x y z X Y Z a b c : Nat) (fx : Finite x) (fy : Finite y) (fz : Finite z) (fX : Finite X) (fY : Finite Y) (fZ : Finite Z) (vX : val X = 2 * val x) (vY : val Y = 2 * val y) (vZ : val Z = 2 * val z) (E m T : Rat) (hT : T * 1000 ≤ E) (hT0 : 0 < T) (hm : m * 1000000 ≤ 2 ^ 1000) (h22 : (2 : Rat) ^ 1000 * 4 ≤ p2 1022) (hTT : T = p2 (-1022))
    (x1 : -m ≤ val x) (x2 : val x ≤ m) (y1 : -m ≤ val y) (y2 : val y ≤ m) (z1 : -m ≤ val z) (z2 : val z ≤ m)
    (cx : val x = 0 ∨ E ≤ val x ∨ val x ≤ -E) (cy : val y = 0 ∨ E ≤ val y ∨ val y ≤ -E) (cz : val z = 0 ∨ E ≤ val z ∨ val z ≤ -E)
    (ea : Mat.row3 4608739758926428405 13821647778546615692 13810898049774936208 x y z = some a ∧ Mat.row3 13826452779721249017 4609471295584413373 4581576329749283875 x y z = some b ∧ Mat.row3 0 0 4608137035759571601 x y z = some c) :
    ∃ a' b' c' a2 b2 c2, Mat.row3 4608739758926428405 13821647778546615692 13810898049774936208 X Y Z = some a' ∧ Mat.row3 13826452779721249017 4609471295584413373 4581576329749283875 X Y Z = some b' ∧ Mat.row3 0 0 4608137035759571601 X Y Z = some c' ∧ floatBits .mul .f64 4611686018427387904 a = some a2 ∧ floatBits .mul .f64 4611686018427387904 b = some b2 ∧ floatBits .mul .f64 4611686018427387904 c = some c2 ∧ FloatKind.f64.format.order a' a2 = some .eq ∧ FloatKind.f64.format.order b' b2 = some .eq ∧ FloatKind.f64.format.order c' c2 = some .eq := by
  have he := eta_le
  have he0 := Rat.le_of_lt eta_pos
  have h1k : 100 * (1 : Rat) ≤ 2 ^ 1000 := bnd.1
  have w1 : -(2 * m) ≤ val X := by rw [vX]; grind
  have w2 : val X ≤ 2 * m := by rw [vX]; grind
  have w3 : -(2 * m) ≤ val Y := by rw [vY]; grind
  have w4 : val Y ≤ 2 * m := by rw [vY]; grind
  have w5 : -(2 * m) ≤ val Z := by rw [vZ]; grind
  have w6 : val Z ≤ 2 * m := by rw [vZ]; grind
  obtain ⟨p0, q0, s0, t0, r0, e10, e20, e30, e40, e50, F0, P0, S0, R0⟩ := row3_all 4608739758926428405 13821647778546615692 13810898049774936208 x y z fin_4608739758926428405 fin_13821647778546615692 fin_13810898049774936208 fx fy fz ((6060939753781493 / 4503599627370496) * (m)) ((1151030443483491 / 4503599627370496) * (m)) ((460324492772873 / 9007199254740992) * (m)) (by rw [val_4608739758926428405]; grind) (by rw [val_4608739758926428405]; grind) (by rw [val_13821647778546615692]; grind) (by rw [val_13821647778546615692]; grind) (by rw [val_13810898049774936208]; grind) (by rw [val_13810898049774936208]; grind) (by grind)
  obtain ⟨p1, q1, s1, t1, r1, e11, e21, e31, e41, e51, F1, P1, S1, R1⟩ := row3_all 13826452779721249017 4609471295584413373 4581576329749283875 x y z fin_13826452779721249017 fin_4609471295584413373 fin_4581576329749283875 fx fy fz ((4905523321196793 / 9007199254740992) * (m)) ((6792476411766461 / 4503599627370496) * (m)) ((5919108340859939 / 288230376151711744) * (m)) (by rw [val_13826452779721249017]; grind) (by rw [val_13826452779721249017]; grind) (by rw [val_4609471295584413373]; grind) (by rw [val_4609471295584413373]; grind) (by rw [val_4581576329749283875]; grind) (by rw [val_4581576329749283875]; grind) (by grind)
  obtain ⟨p2, q2, s2, t2, r2, e12, e22, e32, e42, e52, F2, P2, S2, R2⟩ := row3_all 0 0 4608137035759571601 x y z fin_0 fin_0 fin_4608137035759571601 fx fy fz (0 * (m)) (0 * (m)) ((5458216586924689 / 4503599627370496) * (m)) (by rw [val_0]; grind) (by rw [val_0]; grind) (by rw [val_0]; grind) (by rw [val_0]; grind) (by rw [val_4608137035759571601]; grind) (by rw [val_4608137035759571601]; grind) (by grind)
  obtain ⟨pn0, qn0, sn0, tn0, rn0, e1n0, e2n0, e3n0, e4n0, e5n0, Fn0, Pn0, Sn0, Rn0⟩ := row3_all 4608739758926428405 13821647778546615692 13810898049774936208 X Y Z fin_4608739758926428405 fin_13821647778546615692 fin_13810898049774936208 fX fY fZ ((6060939753781493 / 4503599627370496) * (2 * m)) ((1151030443483491 / 4503599627370496) * (2 * m)) ((460324492772873 / 9007199254740992) * (2 * m)) (by rw [val_4608739758926428405]; grind) (by rw [val_4608739758926428405]; grind) (by rw [val_13821647778546615692]; grind) (by rw [val_13821647778546615692]; grind) (by rw [val_13810898049774936208]; grind) (by rw [val_13810898049774936208]; grind) (by grind)
  obtain ⟨pn1, qn1, sn1, tn1, rn1, e1n1, e2n1, e3n1, e4n1, e5n1, Fn1, Pn1, Sn1, Rn1⟩ := row3_all 13826452779721249017 4609471295584413373 4581576329749283875 X Y Z fin_13826452779721249017 fin_4609471295584413373 fin_4581576329749283875 fX fY fZ ((4905523321196793 / 9007199254740992) * (2 * m)) ((6792476411766461 / 4503599627370496) * (2 * m)) ((5919108340859939 / 288230376151711744) * (2 * m)) (by rw [val_13826452779721249017]; grind) (by rw [val_13826452779721249017]; grind) (by rw [val_4609471295584413373]; grind) (by rw [val_4609471295584413373]; grind) (by rw [val_4581576329749283875]; grind) (by rw [val_4581576329749283875]; grind) (by grind)
  obtain ⟨pn2, qn2, sn2, tn2, rn2, e1n2, e2n2, e3n2, e4n2, e5n2, Fn2, Pn2, Sn2, Rn2⟩ := row3_all 0 0 4608137035759571601 X Y Z fin_0 fin_0 fin_4608137035759571601 fX fY fZ (0 * (2 * m)) (0 * (2 * m)) ((5458216586924689 / 4503599627370496) * (2 * m)) (by rw [val_0]; grind) (by rw [val_0]; grind) (by rw [val_0]; grind) (by rw [val_0]; grind) (by rw [val_4608137035759571601]; grind) (by rw [val_4608137035759571601]; grind) (by grind)
  obtain ⟨ea0, ea1, ea2⟩ := ea
  have o0 := Option.some.inj ((row3_of e10 e20 e30 e40 e50).symm.trans ea0)
  subst o0
  have o1 := Option.some.inj ((row3_of e11 e21 e31 e41 e51).symm.trans ea1)
  subst o1
  have o2 := Option.some.inj ((row3_of e12 e22 e32 e42 e52).symm.trans ea2)
  subst o2
  have V0 := row3_dbl fin_4608739758926428405 fin_13821647778546615692 fin_13810898049774936208 fx fy fz fX fY fZ vX vY vZ F0 Fn0 e10 e20 e30 e40 e50 e1n0 e2n0 e3n0 e4n0 e5n0 (2 ^ 1000) (by grind) (by rw [val_4608739758926428405]; grind) (by rw [val_4608739758926428405]; grind) (by rw [val_13821647778546615692]; grind) (by rw [val_13821647778546615692]; grind) (by rw [val_13810898049774936208]; grind) (by rw [val_13810898049774936208]; grind) (by have := P0.1; grind) (by have := P0.2; grind) (by have := S0.1; grind) (by have := S0.2; grind) (by rw [← hTT, val_4608739758926428405]; rcases cx with h | h | h; exact .inl (by grind); exact .inr (.inl (by grind)); exact .inr (.inr (by grind))) (by rw [← hTT, val_13821647778546615692]; rcases cy with h | h | h; exact .inl (by grind); exact .inr (.inr (by grind)); exact .inr (.inl (by grind))) (by rw [← hTT, val_13810898049774936208]; rcases cz with h | h | h; exact .inl (by grind); exact .inr (.inr (by grind)); exact .inr (.inl (by grind)))
  have V1 := row3_dbl fin_13826452779721249017 fin_4609471295584413373 fin_4581576329749283875 fx fy fz fX fY fZ vX vY vZ F1 Fn1 e11 e21 e31 e41 e51 e1n1 e2n1 e3n1 e4n1 e5n1 (2 ^ 1000) (by grind) (by rw [val_13826452779721249017]; grind) (by rw [val_13826452779721249017]; grind) (by rw [val_4609471295584413373]; grind) (by rw [val_4609471295584413373]; grind) (by rw [val_4581576329749283875]; grind) (by rw [val_4581576329749283875]; grind) (by have := P1.1; grind) (by have := P1.2; grind) (by have := S1.1; grind) (by have := S1.2; grind) (by rw [← hTT, val_13826452779721249017]; rcases cx with h | h | h; exact .inl (by grind); exact .inr (.inr (by grind)); exact .inr (.inl (by grind))) (by rw [← hTT, val_4609471295584413373]; rcases cy with h | h | h; exact .inl (by grind); exact .inr (.inl (by grind)); exact .inr (.inr (by grind))) (by rw [← hTT, val_4581576329749283875]; rcases cz with h | h | h; exact .inl (by grind); exact .inr (.inl (by grind)); exact .inr (.inr (by grind)))
  have V2 := row3_dbl fin_0 fin_0 fin_4608137035759571601 fx fy fz fX fY fZ vX vY vZ F2 Fn2 e12 e22 e32 e42 e52 e1n2 e2n2 e3n2 e4n2 e5n2 (2 ^ 1000) (by grind) (by rw [val_0]; grind) (by rw [val_0]; grind) (by rw [val_0]; grind) (by rw [val_0]; grind) (by rw [val_4608137035759571601]; grind) (by rw [val_4608137035759571601]; grind) (by have := P2.1; grind) (by have := P2.2; grind) (by have := S2.1; grind) (by have := S2.2; grind) (.inl (by rw [val_0]; grind)) (.inl (by rw [val_0]; grind)) (by rw [← hTT, val_4608137035759571601]; rcases cz with h | h | h; exact .inl (by grind); exact .inr (.inl (by grind)); exact .inr (.inr (by grind)))
  obtain ⟨d0, g0, G0, H0⟩ := dbl_exact F0.2.2.2.2 (2 ^ 1000) (by grind) (by have := R0.1; grind) (by have := R0.2; grind)
  obtain ⟨d1, g1, G1, H1⟩ := dbl_exact F1.2.2.2.2 (2 ^ 1000) (by grind) (by have := R1.1; grind) (by have := R1.2; grind)
  obtain ⟨d2, g2, G2, H2⟩ := dbl_exact F2.2.2.2.2 (2 ^ 1000) (by grind) (by have := R2.1; grind) (by have := R2.2; grind)
  exact ⟨rn0, rn1, rn2, d0, d1, d2, row3_of e1n0 e2n0 e3n0 e4n0 e5n0, row3_of e1n1 e2n1 e3n1 e4n1 e5n1, row3_of e1n2 e2n2 e3n2 e4n2 e5n2, g0, g1, g2, eq_of_val Fn0.2.2.2.2 G0 (by rw [V0, H0]), eq_of_val Fn1.2.2.2.2 G1 (by rw [V1, H1]), eq_of_val Fn2.2.2.2.2 G2 (by rw [V2, H2])⟩
theorem odd3 (x y z : Nat) (fx : Finite x) (fy : Finite y) (fz : Finite z) (x1 : -(11 * 10 ^ 299 : Rat) ≤ val x) (x2 : val x ≤ 11 * 10 ^ 299) (y1 : -(11 * 10 ^ 299 : Rat) ≤ val y) (y2 : val y ≤ 11 * 10 ^ 299) (z1 : -(11 * 10 ^ 299 : Rat) ≤ val z) (z2 : val z ≤ 11 * 10 ^ 299) :
    ∃ a b c a' b' c', (Mat.row3 4608739758926428405 13821647778546615692 13810898049774936208 x y z = some a ∧ Mat.row3 13826452779721249017 4609471295584413373 4581576329749283875 x y z = some b ∧ Mat.row3 0 0 4608137035759571601 x y z = some c) ∧ (Mat.row3 4608739758926428405 13821647778546615692 13810898049774936208 (flip x) (flip y) (flip z) = some a' ∧ Mat.row3 13826452779721249017 4609471295584413373 4581576329749283875 (flip x) (flip y) (flip z) = some b' ∧ Mat.row3 0 0 4608137035759571601 (flip x) (flip y) (flip z) = some c') ∧ (Finite a ∧ Finite b ∧ Finite c) ∧ FloatKind.f64.format.order a' (flip a) = some .eq ∧ FloatKind.f64.format.order b' (flip b) = some .eq ∧ FloatKind.f64.format.order c' (flip c) = some .eq ∧ True ∧ True ∧ True := by
  obtain ⟨a, b, c, a', b', c', e1, e2, e3, e4, e5, e6, f, o1, o2, o3, -, -, -⟩ := odd x y z fx fy fz (11 * 10 ^ 299) bnd.2 x1 x2 y1 y2 z1 z2
  exact ⟨a, b, c, a', b', c', ⟨e1, e2, e3⟩, ⟨e4, e5, e6⟩, f, o1, o2, o3, trivial, trivial, trivial⟩
theorem hom3 (x y z a b c : Nat) (fx : Finite x) (fy : Finite y) (fz : Finite z) (k0 : bandB x = true) (k1 : bandB y = true) (k2 : bandB z = true) (ea : Mat.row3 4608739758926428405 13821647778546615692 13810898049774936208 x y z = some a ∧ Mat.row3 13826452779721249017 4609471295584413373 4581576329749283875 x y z = some b ∧ Mat.row3 0 0 4608137035759571601 x y z = some c) :
    ∃ X Y Z, floatBits .mul .f64 4611686018427387904 x = some X ∧ floatBits .mul .f64 4611686018427387904 y = some Y ∧ floatBits .mul .f64 4611686018427387904 z = some Z ∧
      ∃ a' b' c' a2 b2 c2, (Mat.row3 4608739758926428405 13821647778546615692 13810898049774936208 X Y Z = some a' ∧ Mat.row3 13826452779721249017 4609471295584413373 4581576329749283875 X Y Z = some b' ∧ Mat.row3 0 0 4608137035759571601 X Y Z = some c') ∧ floatBits .mul .f64 4611686018427387904 a = some a2 ∧ floatBits .mul .f64 4611686018427387904 b = some b2 ∧ floatBits .mul .f64 4611686018427387904 c = some c2 ∧ FloatKind.f64.format.order a' a2 = some .eq ∧ FloatKind.f64.format.order b' b2 = some .eq ∧ FloatKind.f64.format.order c' c2 = some .eq := by
  obtain ⟨cx, x1, x2⟩ := band_ok fx k0
  obtain ⟨cy, y1, y2⟩ := band_ok fy k1
  obtain ⟨cz, z1, z2⟩ := band_ok fz k2
  obtain ⟨h9, h22, hT⟩ := bnd2
  have h1k : 100 * (1 : Rat) ≤ 2 ^ 1000 := bnd.1
  have hpE := p2_pos 900
  have hT0 := p2_pos (-1022)
  generalize hm : p2 900 = m at *
  generalize hEE : p2 (-900) = E at *
  obtain ⟨X, gX, fX, vX⟩ := dbl_exact fx (2 ^ 1000) (by grind) (by grind) (by grind)
  obtain ⟨Y, gY, fY, vY⟩ := dbl_exact fy (2 ^ 1000) (by grind) (by grind) (by grind)
  obtain ⟨Z, gZ, fZ, vZ⟩ := dbl_exact fz (2 ^ 1000) (by grind) (by grind) (by grind)
  obtain ⟨a', b', c', a2, b2, c2, e1, e2, e3, r⟩ := hom x y z X Y Z a b c fx fy fz fX fY fZ vX vY vZ E m (p2 (-1022)) hT hT0 h9 h22 rfl x1 x2 y1 y2 z1 z2 cx cy cz ea
  exact ⟨X, Y, Z, gX, gY, gZ, a', b', c', a2, b2, c2, ⟨e1, e2, e3⟩, r⟩

set_option maxRecDepth 100000 in
set_option maxHeartbeats 4000000 in
/-- THE WALK -/
theorem walk (a0 : Nat) (a1 : Nat) (a2 : Nat) (w : World) (w0 : (Lit.float .f64 a0).wf = true) (w1 : (Lit.float .f64 a1).wf = true) (w2 : (Lit.float .f64 a2).wf = true) :
    Calls Try.prog 7 #[.float .f64 a0, .float .f64 a1, .float .f64 a2] w fun e w' => e = .returned (.bool true) ∧ Below w.heap.size w w' := by
  have q0 : a0 < 2 ^ 64 := by simpa [Lit.wf] using w0
  have q1 : a1 < 2 ^ 64 := by simpa [Lit.wf] using w1
  have q2 : a2 < 2 ^ 64 := by simpa [Lit.wf] using w2
  clear w0 w1 w2
  cases h0 : ordB a0 with
  | false =>
    go_enter Try.func7, Try.ntmps7
    go_wp2_with fail
    refine (ord_any a0 _).mono ?_
    rintro e w' ⟨rfl, rfl⟩
    rw [h0]
    clear h0 q0 q1 q2
    go_wp2
    go_ret
    exact ⟨rfl, Below.refl _ _⟩
  | true =>
    cases h1 : ordB a1 with
    | false =>
      go_enter Try.func7, Try.ntmps7
      go_wp2_with fail
      refine (ord_any a0 _).mono ?_
      rintro e w' ⟨rfl, rfl⟩
      rw [h0]
      go_wp2_with fail
      refine (ord_any a1 _).mono ?_
      rintro e w' ⟨rfl, rfl⟩
      rw [h1]
      clear h0 h1 q0 q1 q2
      go_wp2
      go_ret
      exact ⟨rfl, Below.refl _ _⟩
    | true =>
      cases h2 : ordB a2 with
      | false =>
        go_enter Try.func7, Try.ntmps7
        go_wp2_with fail
        refine (ord_any a0 _).mono ?_
        rintro e w' ⟨rfl, rfl⟩
        rw [h0]
        go_wp2_with fail
        refine (ord_any a1 _).mono ?_
        rintro e w' ⟨rfl, rfl⟩
        rw [h1]
        go_wp2_with fail
        refine (ord_any a2 _).mono ?_
        rintro e w' ⟨rfl, rfl⟩
        rw [h2]
        clear h0 h1 h2 q0 q1 q2
        go_wp2
        go_ret
        exact ⟨rfl, Below.refl _ _⟩
      | true =>
        obtain ⟨f0, x1, x2⟩ := ord_ok q0 h0
        obtain ⟨f1, y1, y2⟩ := ord_ok q1 h1
        obtain ⟨f2, z1, z2⟩ := ord_ok q2 h2
        obtain ⟨a, b, c, a', b', c', E, E', fin3, o1, o2, o3, A1, B1, C1⟩ := odd3 a0 a1 a2 f0 f1 f2 x1 x2 y1 y2 z1 z2
        have HE := Lib.hid E
        have HE' := Lib.hid E'
        have n0 := fun w => run_neg a0 w
        have n1 := fun w => run_neg a1 w
        have n2 := fun w => run_neg a2 w
        have n3 := fun w => run_neg a w
        have n4 := fun w => run_neg b w
        have n5 := fun w => run_neg c w
        have F := Lib.hid (And.intro f0 (And.intro f1 (And.intro f2 fin3)))
        clear E E' x1 x2 y1 y2 z1 z2 f0 f1 f2 fin3 A1 B1 C1 q0 q1 q2
        go_enter Try.func7, Try.ntmps7
        go_wp2_with fail
        refine (ord_any a0 _).mono ?_
        rintro e w' ⟨rfl, rfl⟩
        rw [h0]
        go_wp2_with fail
        refine (ord_any a1 _).mono ?_
        rintro e w' ⟨rfl, rfl⟩
        rw [h1]
        go_wp2_with fail
        refine (ord_any a2 _).mono ?_
        rintro e w' ⟨rfl, rfl⟩
        rw [h2]
        clear h0 h1 h2
        go_wp2_with fail
        refine (ZZxyzToLinProphoto_n011_293_any a0 a1 a2 a b c (xyz_to_lin_prophoto_any a0 a1 a2 a b c HE.out.1 HE.out.2.1 HE.out.2.2) _).mono ?_
        rintro e w1 ⟨rfl, b1⟩
        go_wp2_with fail
        refine (ZZxyzToLinProphoto_n011_293_any _ _ _ a' b' c' (xyz_to_lin_prophoto_any _ _ _ a' b' c' HE'.out.1 HE'.out.2.1 HE'.out.2.2) _).mono ?_
        rintro e w2 ⟨rfl, b2⟩
        have B2 := b1.trans (b2.mono b1.size)
        clear b1 b2
        cases k0 : bandB a0 with
        | false =>
          go_wp2_with fail
          refine (band_any a0 _).mono ?_
          rintro e w' ⟨rfl, rfl⟩
          rw [k0]
          clear k0
          go_wp2
          go_ret
          exact ⟨rfl, B2⟩
        | true =>
          cases k1 : bandB a1 with
          | false =>
            go_wp2_with fail
            refine (band_any a0 _).mono ?_
            rintro e w' ⟨rfl, rfl⟩
            rw [k0]
            go_wp2_with fail
            refine (band_any a1 _).mono ?_
            rintro e w' ⟨rfl, rfl⟩
            rw [k1]
            clear k0 k1
            go_wp2
            go_ret
            exact ⟨rfl, B2⟩
          | true =>
            cases k2 : bandB a2 with
            | false =>
              go_wp2_with fail
              refine (band_any a0 _).mono ?_
              rintro e w' ⟨rfl, rfl⟩
              rw [k0]
              go_wp2_with fail
              refine (band_any a1 _).mono ?_
              rintro e w' ⟨rfl, rfl⟩
              rw [k1]
              go_wp2_with fail
              refine (band_any a2 _).mono ?_
              rintro e w' ⟨rfl, rfl⟩
              rw [k2]
              clear k0 k1 k2
              go_wp2
              go_ret
              exact ⟨rfl, B2⟩
            | true =>
              obtain ⟨X, Y, Z, gX, gY, gZ, a3, b3, c3, a4, b4, c4, E3, g1, g2, g3, p1, p2', p3⟩ := hom3 a0 a1 a2 a b c F.out.1 F.out.2.1 F.out.2.2.1 k0 k1 k2 HE.out
              have HE3 := Lib.hid E3
              have m1 : ∀ w, (binOp .mul 22 (.float .f64 4611686018427387904) (.float .f64 a0)).run Try.prog w = .ok (.float .f64 X) w := fun w => run_float_arith w .mul 22 .f64 _ _ _ gX
              have m2 : ∀ w, (binOp .mul 22 (.float .f64 4611686018427387904) (.float .f64 a1)).run Try.prog w = .ok (.float .f64 Y) w := fun w => run_float_arith w .mul 22 .f64 _ _ _ gY
              have m3 : ∀ w, (binOp .mul 22 (.float .f64 4611686018427387904) (.float .f64 a2)).run Try.prog w = .ok (.float .f64 Z) w := fun w => run_float_arith w .mul 22 .f64 _ _ _ gZ
              have m4 : ∀ w, (binOp .mul 22 (.float .f64 4611686018427387904) (.float .f64 a)).run Try.prog w = .ok (.float .f64 a4) w := fun w => run_float_arith w .mul 22 .f64 _ _ _ g1
              have m5 : ∀ w, (binOp .mul 22 (.float .f64 4611686018427387904) (.float .f64 b)).run Try.prog w = .ok (.float .f64 b4) w := fun w => run_float_arith w .mul 22 .f64 _ _ _ g2
              have m6 : ∀ w, (binOp .mul 22 (.float .f64 4611686018427387904) (.float .f64 c)).run Try.prog w = .ok (.float .f64 c4) w := fun w => run_float_arith w .mul 22 .f64 _ _ _ g3
              clear E3 gX gY gZ g1 g2 g3
              go_wp2_with fail
              refine (band_any a0 _).mono ?_
              rintro e w' ⟨rfl, rfl⟩
              rw [k0]
              go_wp2_with fail
              refine (band_any a1 _).mono ?_
              rintro e w' ⟨rfl, rfl⟩
              rw [k1]
              go_wp2_with fail
              refine (band_any a2 _).mono ?_
              rintro e w' ⟨rfl, rfl⟩
              rw [k2]
              clear k0 k1 k2
              go_wp2_with fail
              refine (ZZxyzToLinProphoto_n011_293_any X Y Z a3 b3 c3 (xyz_to_lin_prophoto_any X Y Z a3 b3 c3 HE3.out.1 HE3.out.2.1 HE3.out.2.2) _).mono ?_
              rintro e w3 ⟨rfl, b3'⟩
              have B3 := B2.trans (b3'.mono B2.size)
              clear B2 b3'
              go_wp2
              go_ret
              exact ⟨rfl, B3⟩

set_option maxRecDepth 100000 in
theorem lifted (os : Os) (started : os.Started) (H : Type) (enc : TypeId × Value → H) :
    ReturnsInHanded {} Try.checked os 7 .any (Rows.fnXyzToLinProphotoIsOddAndExactlyHomogeneousSpec.pre6 enc Try.prog Try.f7 Rows.fnXyzToLinProphotoIsOddAndExactlyHomogeneousRow.domain false) (Rows.fnXyzToLinProphotoIsOddAndExactlyHomogeneousSpec.post enc Try.prog Try.f7 false true false false) := by
  refine returnsInHanded_of_change (C := Try.checked) own started (by kernel_rfl) Try.func7
    (ChangeSpec.witness6 (enc := enc) (C := Try.checked) false ⟨#[], #[.float .f64 0, .float .f64 0, .float .f64 0], []⟩ 8 (by kernel_rfl) (by kernel_rfl) (by kernel_rfl) (by kernel_rfl)) ?_
  intro W base args ds gs before hval0 hW hcnd _
  have hval : ∀ (j : Nat) t v, Try.f7.params[j]? = some t → args[j]? = some v → Value.okWide Try.prog W .any base t v := hval0
  have hW' := hW
  obtain ⟨p, q, hA0, hV, rfl, hfz, hnd⟩ := hW
  have hA : DataW.TrodAll enc Try.prog W 0 (fun _ => true) true Try.f7.params.toList args.toList ds p := hA0
  rw [Try.params7] at hA hval
  obtain ⟨v0, vs0, d0, ds0, p0, q0, hargs, rfl, rfl, h0, r0⟩ := trodAll_cons hA
  obtain ⟨v1, vs1, d1, ds1, p1, q1, rfl, rfl, rfl, h1, r1⟩ := trodAll_cons r0
  obtain ⟨v2, vs2, d2, ds2, p2, q2, rfl, rfl, rfl, h2, r2⟩ := trodAll_cons r1
  obtain ⟨rfl, rfl, rfl⟩ := trodAll_nil r2
  obtain rfl : args = #[v0, v1, v2] := by cases args; simp_all
  obtain ⟨rfl, rfl⟩ := trodVars_none hV
  obtain ⟨a0, rfl, rfl, rfl, w0⟩ := open_float Try.underlying22 (hval 0 22 v0 rfl rfl) h0
  obtain ⟨a1, rfl, rfl, rfl, w1⟩ := open_float Try.underlying22 (hval 1 22 v1 rfl rfl) h1
  obtain ⟨a2, rfl, rfl, rfl, w2⟩ := open_float Try.underlying22 (hval 2 22 v2 rfl rfl) h2
  clear hA0 hval0
  refine (walk a0 a1 a2 W w0 w1 w2).mono fun e W' ⟨he, bel⟩ => ?_
  subst he
  exact ⟨_, rfl, _, _, _, [], _, [], hW', trodAll_mk1 (shut_bool Try.underlying4 _), (trodAll_cons_mk (shut_float Try.underlying22 w0) (trodAll_cons_mk (shut_float Try.underlying22 w1) (trodAll_cons_mk (shut_float Try.underlying22 w2) trodAll_mk0))), rfl, bel.frame _, fun h => by cases h⟩

theorem over : Rows.fnXyzToLinProphotoIsOddAndExactlyHomogeneousRow.holds Try.pinned (OpenSpec.ofChange Rows.fnXyzToLinProphotoIsOddAndExactlyHomogeneousSpec) :=
  OpenClaim.holds_of_wide 7 Try.f7 rfl rfl rfl rfl rfl rfl rfl ⟨rfl, rfl, rfl, rfl, rfl⟩ rfl rfl rfl rfl rfl (by kernel_rfl) Try.func7 (by kernel_rfl)
    (of_decide_eq_true (by kernel_rfl)) (by unfold Func.isWrapper; first | (rw [if_pos (by decide +kernel)]; kernel_rfl) | (rw [if_neg (by decide +kernel)]; exact ⟨rfl, rfl⟩))
    (fun os started H enc _ => lifted os started H enc)

/-- THE STATEMENT -/
theorem proved : Rows.FnXyzToLinProphotoIsOddAndExactlyHomogeneousSaid := over
#print axioms proved
end Go.Proofs.Ythjgigahhooilaa.fnXyzToLinProphotoIsOddAndExactlyHomogeneous
