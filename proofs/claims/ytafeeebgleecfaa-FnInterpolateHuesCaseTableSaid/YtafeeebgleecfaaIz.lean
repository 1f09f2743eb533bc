/-
  interpolateHues by its two ends; the law's helpers by their contracts.
-/
import Derived.Test.YtafeeebgleecfaaIh
import Derived.Test.YtafeeebgleecfaaFLM
import Derived.Laws.Cover2
namespace Go.Proofs.Ytafeeebgleecfaa.Mat
open Go.ChangeShapes Go.WideShapes Go.ChangeAt Go.RowKit
open FL
set_option linter.unusedVariables false
set_option maxRecDepth 100000 in
set_option maxHeartbeats 1000000 in
theorem zih_any (a b t z : Nat) (m : Int) (hc : ∀ w, Calls Try.prog 55 #[.agg #[.float .f64 a], .agg #[.float .f64 b], .agg #[.float .f64 t], .int .u8 m] w fun e w' => e = .returned (.agg #[.float .f64 z]) ∧ Below w.heap.size w w') (w : World) :
    Calls Try.prog 34 #[.float .f64 a, .float .f64 b, .float .f64 t, .int .u8 m] w fun e w' => e = .returned (.float .f64 z) ∧ Below w.heap.size w w' := by
  have HC := Lib.hid hc
  clear hc
  go_enter Try.func34, Try.ntmps34
  go_wp2_with fail
  refine (NewF64_any a _).mono ?_
  rintro e w1 ⟨rfl, b1⟩
  go_wp2_with fail
  refine (NewF64_any b _).mono ?_
  rintro e w2 ⟨rfl, b2⟩
  go_wp2_with fail
  refine (NewF64_any t _).mono ?_
  rintro e w3 ⟨rfl, b3⟩
  go_wp2_with fail
  refine (HC.out _).mono ?_
  rintro e w4 ⟨rfl, b4⟩
  go_wp2_with fail
  refine (Value_any z _).mono ?_
  rintro e w5 ⟨rfl, b5⟩
  have B4 : Below w.heap.size w w5 := b1.trans ((b2.mono b1.size).trans ((b3.mono (Nat.le_trans b1.size b2.size)).trans ((b4.mono (Nat.le_trans b1.size (Nat.le_trans b2.size b3.size))).trans (b5.mono (Nat.le_trans b1.size (Nat.le_trans b2.size (Nat.le_trans b3.size b4.size)))))))
  have HB := Lib.hid B4
  clear b1 b2 b3 b4 b5 B4
  go_wp2
  go_ret
  exact ⟨rfl, HB.out⟩
/-- both ends, and what every step between them gives -/
def Steps (a b : Nat) (m : Int) (A B : Nat) : Prop := Finite A ∧ Finite B ∧ ∀ t, Finite t → 0 ≤ val t → val t ≤ 1 → ∃ z, (∀ w, Calls Try.prog 34 #[.float .f64 a, .float .f64 b, .float .f64 t, .int .u8 m] w fun e w' => e = .returned (.float .f64 z) ∧ Below w.heap.size w w') ∧ Finite z ∧ 360 * (val A + (val B - val A) * val t) - 1 / 1000000000 ≤ val z ∧ val z ≤ 360 * (val A + (val B - val A) * val t) + 1 / 1000000000
def NearTurn (x a : Rat) : Prop := ∃ k : Int, -1 / 100000000 ≤ 360 * x - a - 360 * (k : Rat) ∧ 360 * x - a - 360 * (k : Rat) ≤ 1 / 100000000

theorem near0 {x a : Rat} {n : Int} (h1 : a / 360 - (n : Rat) - 1 / 100000000000 ≤ x) (h2 : x ≤ a / 360 - (n : Rat) + 1 / 100000000000) : NearTurn x a := by
  refine ⟨-n, ?_⟩
  rw [Rat.intCast_neg]
  exact ⟨by grind, by grind⟩
theorem near1 {x y a : Rat} {n : Int} (h1 : a / 360 - (n : Rat) - 1 / 100000000000 ≤ x) (h2 : x ≤ a / 360 - (n : Rat) + 1 / 100000000000) (h3 : x + 1 - 1 / 100000000000 ≤ y) (h4 : y ≤ x + 1 + 1 / 100000000000) : NearTurn y a := by
  refine ⟨1 - n, ?_⟩
  rw [Rat.intCast_sub, show ((1 : Int) : Rat) = 1 from rfl]
  exact ⟨by grind, by grind⟩
theorem ends49 (a b : Nat) (m : Int) (hm : 0 ≤ m) (fa : Finite a) (fb : Finite b) (a1 : -1000000 ≤ val a) (a2 : val a ≤ 1000000) (b1 : -1000000 ≤ val b) (b2 : val b ≤ 1000000) :
    ∃ A B, Steps a b m A B ∧ FL.Ends m (val A) (val B) ∧ NearTurn (val A) (val a) ∧ NearTurn (val B) (val b) := by
  obtain ⟨qa, ga, ra, e1, e2, e3, fra, ra1, ra2, n, n1, n2, n3, n4⟩ := frac49 a fa a1 a2
  obtain ⟨qb, gb, rb, k1, k2, k3, frb, rb1, rb2, n', n1', n2', n3', n4'⟩ := frac49 b fb b1 b2
  obtain ⟨ra', xa, fxa, xa1, xa2⟩ := turn49 ra fra ra1 (by grind)
  obtain ⟨rb', xb, fxb, xb1, xb2⟩ := turn49 rb frb rb1 (by grind)
  obtain ⟨d, dd, fd, d1, d2⟩ := diff49 ra rb fra frb ra1 (by grind) rb1 (by grind)
  obtain ⟨fh, vh⟩ := cHalf
  obtain ⟨fmh, vmh⟩ := cMHalf
  have nA0 := near0 n3 n4
  have nB0 := near0 n3' n4'
  have nA1 := near1 n3 n4 xa1 xa2
  have nB1 := near1 n3' n4' xb1 xb2
  have tgh := gtB_ok fd fh
  have tlm := ltB_ok fd fmh
  have tg0 := gtB_ok fd fin_zero
  have tlh := ltB_ok fd fh
  have tgm := gtB_ok fd fmh
  have tl0 := leB_ok fd fin_zero
  have tba := ltB_ok frb fra
  have tab := ltB_ok fra frb
  rw [vh] at tgh tlh
  rw [vmh] at tlm tgm
  rw [val_zero] at tg0 tl0
  rcases (by omega : m = 0 ∨ m = 1 ∨ m = 2 ∨ m = 3 ∨ 4 ≤ m) with rfl | rfl | rfl | rfl | hm
  · by_cases h1 : 1 / 2 < val d
    · have g1 : gtB d 4602678819172646912 = true := by rw [tgh]; exact decide_eq_true h1
      have g2 : ltB d 13826050856027422720 = false := by rw [tlm]; exact decide_eq_false (by grind)
      refine ⟨ra', rb, ⟨fxa, frb, fun t ft t1 t2 => ?_⟩, ?_, nA1, nB0⟩
      · obtain ⟨p, q, r, z, l1, l2, l3, l4, fz, z1, z2⟩ := lerp49 ra' rb t fxa frb ft (by grind) (by grind) (by grind) (by grind) t1 t2
        exact ⟨z, zih_any a b t z _ (fun w => ih0_hi a b t qa qb ga gb ra rb p q r z d ra' w.heap.size w (Lib.hid rfl) (Lib.hid e1) (Lib.hid k1) (Lib.hid e2) (Lib.hid k2) (Lib.hid e3) (Lib.hid k3) (Lib.hid dd) (Lib.hid xa) (Lib.hid g1) (Lib.hid g2) (Lib.hid l1) (Lib.hid l2) (Lib.hid l3) (Lib.hid l4)), fz, z1, z2⟩
      · refine ⟨by grind, by grind, by grind, by grind, fun _ => by grind, fun h => ?_, fun h => ?_, fun h => ?_, fun h => ?_, fun h => ?_⟩ <;> first | (exfalso; omega) | exact ⟨by grind, by grind⟩ | exact .inl ⟨by grind, by grind⟩ | exact .inr ⟨by grind, by grind⟩
    · by_cases h2 : val d < -(1 / 2)
      · have g1 : gtB d 4602678819172646912 = false := by rw [tgh]; exact decide_eq_false h1
        have g2 : ltB d 13826050856027422720 = true := by rw [tlm]; exact decide_eq_true h2
        refine ⟨ra, rb', ⟨fra, fxb, fun t ft t1 t2 => ?_⟩, ?_, nA0, nB1⟩
        · obtain ⟨p, q, r, z, l1, l2, l3, l4, fz, z1, z2⟩ := lerp49 ra rb' t fra fxb ft (by grind) (by grind) (by grind) (by grind) t1 t2
          exact ⟨z, zih_any a b t z _ (fun w => ih0_lo a b t qa qb ga gb ra rb p q r z d rb' w.heap.size w (Lib.hid rfl) (Lib.hid e1) (Lib.hid k1) (Lib.hid e2) (Lib.hid k2) (Lib.hid e3) (Lib.hid k3) (Lib.hid dd) (Lib.hid xb) (Lib.hid g1) (Lib.hid g2) (Lib.hid l1) (Lib.hid l2) (Lib.hid l3) (Lib.hid l4)), fz, z1, z2⟩
        · refine ⟨by grind, by grind, by grind, by grind, fun _ => by grind, fun h => ?_, fun h => ?_, fun h => ?_, fun h => ?_, fun h => ?_⟩ <;> first | (exfalso; omega) | exact ⟨by grind, by grind⟩ | exact .inl ⟨by grind, by grind⟩ | exact .inr ⟨by grind, by grind⟩
      · have g1 : gtB d 4602678819172646912 = false := by rw [tgh]; exact decide_eq_false h1
        have g2 : ltB d 13826050856027422720 = false := by rw [tlm]; exact decide_eq_false h2
        refine ⟨ra, rb, ⟨fra, frb, fun t ft t1 t2 => ?_⟩, ?_, nA0, nB0⟩
        · obtain ⟨p, q, r, z, l1, l2, l3, l4, fz, z1, z2⟩ := lerp49 ra rb t fra frb ft (by grind) (by grind) (by grind) (by grind) t1 t2
          exact ⟨z, zih_any a b t z _ (fun w => ih0_no a b t qa qb ga gb ra rb p q r z d w.heap.size w (Lib.hid rfl) (Lib.hid e1) (Lib.hid k1) (Lib.hid e2) (Lib.hid k2) (Lib.hid e3) (Lib.hid k3) (Lib.hid dd) (Lib.hid g1) (Lib.hid g2) (Lib.hid l1) (Lib.hid l2) (Lib.hid l3) (Lib.hid l4)), fz, z1, z2⟩
        · refine ⟨by grind, by grind, by grind, by grind, fun _ => by grind, fun h => ?_, fun h => ?_, fun h => ?_, fun h => ?_, fun h => ?_⟩ <;> first | (exfalso; omega) | exact ⟨by grind, by grind⟩ | exact .inl ⟨by grind, by grind⟩ | exact .inr ⟨by grind, by grind⟩
  · by_cases h1 : 0 < val d
    · have g1 : gtB d 0 = true := by rw [tg0]; exact decide_eq_true h1
      have g3 : gtB d 13826050856027422720 = true := by rw [tgm]; exact decide_eq_true (by grind)
      have g4 : leB d 0 = false := by rw [tl0]; exact decide_eq_false (by grind)
      by_cases h2 : val d < 1 / 2
      · have g2 : ltB d 4602678819172646912 = true := by rw [tlh]; exact decide_eq_true h2
        refine ⟨ra', rb, ⟨fxa, frb, fun t ft t1 t2 => ?_⟩, ?_, nA1, nB0⟩
        · obtain ⟨p, q, r, z, l1, l2, l3, l4, fz, z1, z2⟩ := lerp49 ra' rb t fxa frb ft (by grind) (by grind) (by grind) (by grind) t1 t2
          exact ⟨z, zih_any a b t z _ (fun w => ih1_hi a b t qa qb ga gb ra rb p q r z d ra' w.heap.size w (Lib.hid rfl) (Lib.hid e1) (Lib.hid k1) (Lib.hid e2) (Lib.hid k2) (Lib.hid e3) (Lib.hid k3) (Lib.hid dd) (Lib.hid xa) (Lib.hid g1) (Lib.hid g2) (Lib.hid g3) (Lib.hid g4) (Lib.hid l1) (Lib.hid l2) (Lib.hid l3) (Lib.hid l4)), fz, z1, z2⟩
        · refine ⟨by grind, by grind, by grind, by grind, fun _ => by grind, fun h => ?_, fun h => ?_, fun h => ?_, fun h => ?_, fun h => ?_⟩ <;> first | (exfalso; omega) | exact ⟨by grind, by grind⟩ | exact .inl ⟨by grind, by grind⟩ | exact .inr ⟨by grind, by grind⟩
      · have g2 : ltB d 4602678819172646912 = false := by rw [tlh]; exact decide_eq_false h2
        refine ⟨ra, rb, ⟨fra, frb, fun t ft t1 t2 => ?_⟩, ?_, nA0, nB0⟩
        · obtain ⟨p, q, r, z, l1, l2, l3, l4, fz, z1, z2⟩ := lerp49 ra rb t fra frb ft (by grind) (by grind) (by grind) (by grind) t1 t2
          exact ⟨z, zih_any a b t z _ (fun w => ih1_up a b t qa qb ga gb ra rb p q r z d w.heap.size w (Lib.hid rfl) (Lib.hid e1) (Lib.hid k1) (Lib.hid e2) (Lib.hid k2) (Lib.hid e3) (Lib.hid k3) (Lib.hid dd) (Lib.hid g1) (Lib.hid g2) (Lib.hid g3) (Lib.hid g4) (Lib.hid l1) (Lib.hid l2) (Lib.hid l3) (Lib.hid l4)), fz, z1, z2⟩
        · refine ⟨by grind, by grind, by grind, by grind, fun _ => by grind, fun h => ?_, fun h => ?_, fun h => ?_, fun h => ?_, fun h => ?_⟩ <;> first | (exfalso; omega) | exact ⟨by grind, by grind⟩ | exact .inl ⟨by grind, by grind⟩ | exact .inr ⟨by grind, by grind⟩
    · have g1 : gtB d 0 = false := by rw [tg0]; exact decide_eq_false h1
      by_cases h2 : -(1 / 2) < val d
      · have g3 : gtB d 13826050856027422720 = true := by rw [tgm]; exact decide_eq_true h2
        have g4 : leB d 0 = true := by rw [tl0]; exact decide_eq_true (by grind)
        refine ⟨ra, rb', ⟨fra, fxb, fun t ft t1 t2 => ?_⟩, ?_, nA0, nB1⟩
        · obtain ⟨p, q, r, z, l1, l2, l3, l4, fz, z1, z2⟩ := lerp49 ra rb' t fra fxb ft (by grind) (by grind) (by grind) (by grind) t1 t2
          exact ⟨z, zih_any a b t z _ (fun w => ih1_lo a b t qa qb ga gb ra rb p q r z d rb' w.heap.size w (Lib.hid rfl) (Lib.hid e1) (Lib.hid k1) (Lib.hid e2) (Lib.hid k2) (Lib.hid e3) (Lib.hid k3) (Lib.hid dd) (Lib.hid xb) (Lib.hid g1) (Lib.hid g3) (Lib.hid g4) (Lib.hid l1) (Lib.hid l2) (Lib.hid l3) (Lib.hid l4)), fz, z1, z2⟩
        · refine ⟨by grind, by grind, by grind, by grind, fun _ => by grind, fun h => ?_, fun h => ?_, fun h => ?_, fun h => ?_, fun h => ?_⟩ <;> first | (exfalso; omega) | exact ⟨by grind, by grind⟩ | exact .inl ⟨by grind, by grind⟩ | exact .inr ⟨by grind, by grind⟩
      · have g3 : gtB d 13826050856027422720 = false := by rw [tgm]; exact decide_eq_false h2
        refine ⟨ra, rb, ⟨fra, frb, fun t ft t1 t2 => ?_⟩, ?_, nA0, nB0⟩
        · obtain ⟨p, q, r, z, l1, l2, l3, l4, fz, z1, z2⟩ := lerp49 ra rb t fra frb ft (by grind) (by grind) (by grind) (by grind) t1 t2
          exact ⟨z, zih_any a b t z _ (fun w => ih1_dn a b t qa qb ga gb ra rb p q r z d w.heap.size w (Lib.hid rfl) (Lib.hid e1) (Lib.hid k1) (Lib.hid e2) (Lib.hid k2) (Lib.hid e3) (Lib.hid k3) (Lib.hid dd) (Lib.hid g1) (Lib.hid g3) (Lib.hid l1) (Lib.hid l2) (Lib.hid l3) (Lib.hid l4)), fz, z1, z2⟩
        · refine ⟨by grind, by grind, by grind, by grind, fun _ => by grind, fun h => ?_, fun h => ?_, fun h => ?_, fun h => ?_, fun h => ?_⟩ <;> first | (exfalso; omega) | exact ⟨by grind, by grind⟩ | exact .inl ⟨by grind, by grind⟩ | exact .inr ⟨by grind, by grind⟩
  · by_cases h1 : val rb < val ra
    · have g1 : ltB rb ra = true := by rw [tba]; exact decide_eq_true h1
      refine ⟨ra, rb', ⟨fra, fxb, fun t ft t1 t2 => ?_⟩, ?_, nA0, nB1⟩
      · obtain ⟨p, q, r, z, l1, l2, l3, l4, fz, z1, z2⟩ := lerp49 ra rb' t fra fxb ft (by grind) (by grind) (by grind) (by grind) t1 t2
        exact ⟨z, zih_any a b t z _ (fun w => ih2_lo a b t qa qb ga gb ra rb p q r z rb' w.heap.size w (Lib.hid rfl) (Lib.hid e1) (Lib.hid k1) (Lib.hid e2) (Lib.hid k2) (Lib.hid e3) (Lib.hid k3) (Lib.hid xb) (Lib.hid g1) (Lib.hid l1) (Lib.hid l2) (Lib.hid l3) (Lib.hid l4)), fz, z1, z2⟩
      · refine ⟨by grind, by grind, by grind, by grind, fun _ => by grind, fun h => ?_, fun h => ?_, fun h => ?_, fun h => ?_, fun h => ?_⟩ <;> first | (exfalso; omega) | exact ⟨by grind, by grind⟩ | exact .inl ⟨by grind, by grind⟩ | exact .inr ⟨by grind, by grind⟩
    · have g1 : ltB rb ra = false := by rw [tba]; exact decide_eq_false h1
      refine ⟨ra, rb, ⟨fra, frb, fun t ft t1 t2 => ?_⟩, ?_, nA0, nB0⟩
      · obtain ⟨p, q, r, z, l1, l2, l3, l4, fz, z1, z2⟩ := lerp49 ra rb t fra frb ft (by grind) (by grind) (by grind) (by grind) t1 t2
        exact ⟨z, zih_any a b t z _ (fun w => ih2_no a b t qa qb ga gb ra rb p q r z  w.heap.size w (Lib.hid rfl) (Lib.hid e1) (Lib.hid k1) (Lib.hid e2) (Lib.hid k2) (Lib.hid e3) (Lib.hid k3) (Lib.hid g1) (Lib.hid l1) (Lib.hid l2) (Lib.hid l3) (Lib.hid l4)), fz, z1, z2⟩
      · refine ⟨by grind, by grind, by grind, by grind, fun _ => by grind, fun h => ?_, fun h => ?_, fun h => ?_, fun h => ?_, fun h => ?_⟩ <;> first | (exfalso; omega) | exact ⟨by grind, by grind⟩ | exact .inl ⟨by grind, by grind⟩ | exact .inr ⟨by grind, by grind⟩
  · by_cases h1 : val ra < val rb
    · have g1 : ltB ra rb = true := by rw [tab]; exact decide_eq_true h1
      refine ⟨ra', rb, ⟨fxa, frb, fun t ft t1 t2 => ?_⟩, ?_, nA1, nB0⟩
      · obtain ⟨p, q, r, z, l1, l2, l3, l4, fz, z1, z2⟩ := lerp49 ra' rb t fxa frb ft (by grind) (by grind) (by grind) (by grind) t1 t2
        exact ⟨z, zih_any a b t z _ (fun w => ih3_hi a b t qa qb ga gb ra rb p q r z ra' w.heap.size w (Lib.hid rfl) (Lib.hid e1) (Lib.hid k1) (Lib.hid e2) (Lib.hid k2) (Lib.hid e3) (Lib.hid k3) (Lib.hid xa) (Lib.hid g1) (Lib.hid l1) (Lib.hid l2) (Lib.hid l3) (Lib.hid l4)), fz, z1, z2⟩
      · refine ⟨by grind, by grind, by grind, by grind, fun _ => by grind, fun h => ?_, fun h => ?_, fun h => ?_, fun h => ?_, fun h => ?_⟩ <;> first | (exfalso; omega) | exact ⟨by grind, by grind⟩ | exact .inl ⟨by grind, by grind⟩ | exact .inr ⟨by grind, by grind⟩
    · have g1 : ltB ra rb = false := by rw [tab]; exact decide_eq_false h1
      refine ⟨ra, rb, ⟨fra, frb, fun t ft t1 t2 => ?_⟩, ?_, nA0, nB0⟩
      · obtain ⟨p, q, r, z, l1, l2, l3, l4, fz, z1, z2⟩ := lerp49 ra rb t fra frb ft (by grind) (by grind) (by grind) (by grind) t1 t2
        exact ⟨z, zih_any a b t z _ (fun w => ih3_no a b t qa qb ga gb ra rb p q r z  w.heap.size w (Lib.hid rfl) (Lib.hid e1) (Lib.hid k1) (Lib.hid e2) (Lib.hid k2) (Lib.hid e3) (Lib.hid k3) (Lib.hid g1) (Lib.hid l1) (Lib.hid l2) (Lib.hid l3) (Lib.hid l4)), fz, z1, z2⟩
      · refine ⟨by grind, by grind, by grind, by grind, fun _ => by grind, fun h => ?_, fun h => ?_, fun h => ?_, fun h => ?_, fun h => ?_⟩ <;> first | (exfalso; omega) | exact ⟨by grind, by grind⟩ | exact .inl ⟨by grind, by grind⟩ | exact .inr ⟨by grind, by grind⟩
  · refine ⟨ra, rb, ⟨fra, frb, fun t ft t1 t2 => ?_⟩, ?_, nA0, nB0⟩
    · obtain ⟨p, q, r, z, l1, l2, l3, l4, fz, z1, z2⟩ := lerp49 ra rb t fra frb ft (by grind) (by grind) (by grind) (by grind) t1 t2
      exact ⟨z, zih_any a b t z _ (fun w => ih4 a b t qa qb ga gb ra rb p q r z  w.heap.size m w (Lib.hid rfl) (Lib.hid e1) (Lib.hid k1) (Lib.hid e2) (Lib.hid k2) (Lib.hid e3) (Lib.hid k3) hm (Lib.hid l1) (Lib.hid l2) (Lib.hid l3) (Lib.hid l4)), fz, z1, z2⟩
    · refine ⟨by grind, by grind, by grind, by grind, fun _ => by grind, fun h => ?_, fun h => ?_, fun h => ?_, fun h => ?_, fun h => ?_⟩ <;> first | (exfalso; omega) | exact ⟨by grind, by grind⟩ | exact .inl ⟨by grind, by grind⟩ | exact .inr ⟨by grind, by grind⟩
set_option maxHeartbeats 400000 in
theorem zabs_any (x : Nat) (w : World) : Calls Try.prog 36 #[.float .f64 x] w fun e w' => e = .returned (.float .f64 (absW x)) ∧ w = w' := by
  have hn : ∀ w, (Op.unary .neg (.float .f64 x)).run Try.prog w = .ok (.float .f64 (FL.flip x)) w := fun w => rfl
  cases h : ltB x 0 with
  | true =>
    have q : (FloatKind.f64.format.order x 0 == some .lt) = true := h
    have e : absW x = FL.flip x := by unfold absW; rw [h]; rfl
    rw [e]
    clear h e
    go_enter Try.func36, Try.ntmps36
    go_wp2
    go_ret
    exact ⟨rfl, rfl⟩
  | false =>
    have q : (FloatKind.f64.format.order x 0 == some .lt) = false := h
    have e : absW x = x := by unfold absW; rw [h]; rfl
    rw [e]
    clear h e
    go_enter Try.func36, Try.ntmps36
    go_wp2
    go_ret
    exact ⟨rfl, rfl⟩
set_option maxHeartbeats 400000 in
theorem zfloor_any (x : Nat) (w : World) (fx : Finite x) (h1 : -100000 ≤ val x) (h2 : val x ≤ 100000) : ∃ F, (∀ w, Calls Try.prog 56 #[.float .f64 x] w fun e w' => e = .returned (.float .f64 F) ∧ w = w') ∧ Finite F ∧ ∃ k : Int, val F = k ∧ (k : Rat) ≤ val x ∧ val x < (k : Rat) + 1 := by
  obtain ⟨n, hn, hc⟩ := floor49 x fx h1 h2
  have c1 : ∀ w, (convert 22 2 (.float .f64 x)).run Try.prog w = .ok (.int .i64 n) w := fun w => run_convert_float_int w 22 2 .f64 .i64 _ _ rfl rfl hn
  rcases hc with ⟨hg, f, hk⟩ | ⟨hg, F, hs, f, hk⟩
  · refine ⟨floatOfInt .f64 n, fun w => ?_, f, hk⟩
    have q : (FloatKind.f64.format.order (floatOfInt .f64 n) x == some .gt) = false := hg
    clear hg f hk hn h1 h2 fx
    go_enter Try.func56, Try.ntmps56
    go_wp2
    go_ret
    exact ⟨rfl, rfl⟩
  · refine ⟨F, fun w => ?_, f, hk⟩
    have q : (FloatKind.f64.format.order (floatOfInt .f64 n) x == some .gt) = true := hg
    have m1 : ∀ w, (binOp .sub 22 (.float .f64 (floatOfInt .f64 n)) (.float .f64 4607182418800017408)).run Try.prog w = .ok (.float .f64 F) w := fun w => run_float_arith w .sub 22 .f64 _ _ _ hs
    clear hg f hk hn h1 h2 fx hs
    go_enter Try.func56, Try.ntmps56
    go_wp2
    go_ret
    exact ⟨rfl, rfl⟩
set_option maxHeartbeats 1000000 in
theorem zcirc_any (x y : Nat) (k : Int) (fx : Finite x) (fy : Finite y) (x1 : -1 ≤ val x) (x2 : val x ≤ 1000) (y1 : -1000000 ≤ val y) (y2 : val y ≤ 1000000) (k1 : -1 / 10000000 ≤ val x - val y - 360 * (k : Rat)) (k2 : val x - val y - 360 * (k : Rat) ≤ 1 / 10000000) :
    ∃ c, (∀ w, Calls Try.prog 35 #[.float .f64 x, .float .f64 y] w fun e w' => e = .returned (.float .f64 c) ∧ w = w') ∧ gtB c 4517329193108106637 = false := by
  obtain ⟨dd, dq, e1, e2, fq, q1, q2, hall⟩ := circ49 x y k fx fy x1 x2 y1 y2 k1 k2
  obtain ⟨F, hF, fF, kf, vF, g1, g2⟩ := zfloor_any dq default fq q1 q2
  obtain ⟨G, mm, nn, e3, e4, e5, hc⟩ := hall F kf fF vF g1 g2
  have m1 : ∀ w, (binOp .sub 22 (.float .f64 x) (.float .f64 y)).run Try.prog w = .ok (.float .f64 dd) w := fun w => run_float_arith w .sub 22 .f64 _ _ _ e1
  have m2 : ∀ w, (binOp .quo 22 (.float .f64 dd) (.float .f64 4645040803167600640)).run Try.prog w = .ok (.float .f64 dq) w := fun w => run_float_arith w .quo 22 .f64 _ _ _ e2
  have m3 : ∀ w, (binOp .mul 22 (.float .f64 4645040803167600640) (.float .f64 F)).run Try.prog w = .ok (.float .f64 G) w := fun w => run_float_arith w .mul 22 .f64 _ _ _ e3
  have m4 : ∀ w, (binOp .sub 22 (.float .f64 dd) (.float .f64 G)).run Try.prog w = .ok (.float .f64 mm) w := fun w => run_float_arith w .sub 22 .f64 _ _ _ e4
  have m5 : ∀ w, (binOp .sub 22 (.float .f64 4645040803167600640) (.float .f64 mm)).run Try.prog w = .ok (.float .f64 nn) w := fun w => run_float_arith w .sub 22 .f64 _ _ _ e5
  obtain ⟨fe, ve, -⟩ := kEps
  have HF := Lib.hid hF
  clear hall hF e1 e2 e3 e4 e5 fq q1 q2 fF vF g1 g2 k1 k2 x1 x2 y1 y2 fx fy
  rcases hc with ⟨hl, fn, vn⟩ | ⟨hl, fn, vn⟩
  · refine ⟨nn, fun w => ?_, by rw [gtB_ok fn fe]; exact decide_eq_false (by grind)⟩
    have q : (FloatKind.f64.format.order nn mm == some .lt) = true := hl
    clear hl fn vn fe ve
    go_enter Try.func35, Try.ntmps35
    go_wp2_with (go_at_call 56; refine (HF.out _).mono ?_; rintro e w' ⟨rfl, rfl⟩)
    go_ret
    exact ⟨rfl, rfl⟩
  · refine ⟨mm, fun w => ?_, by rw [gtB_ok fn fe]; exact decide_eq_false (by grind)⟩
    have q : (FloatKind.f64.format.order nn mm == some .lt) = false := hl
    clear hl fn vn fe ve
    go_enter Try.func35, Try.ntmps35
    go_wp2_with (go_at_call 56; refine (HF.out _).mono ?_; rintro e w' ⟨rfl, rfl⟩)
    go_ret
    exact ⟨rfl, rfl⟩
end Go.Proofs.Ytafeeebgleecfaa.Mat
