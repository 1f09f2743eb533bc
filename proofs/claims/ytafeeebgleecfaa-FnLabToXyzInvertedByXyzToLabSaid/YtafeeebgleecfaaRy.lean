/-
  Lab and XYZ: there and back, by the two contracts.
-/
import Derived.Test.YtafeeebgleecfaaLb
namespace Go.Proofs.Ytafeeebgleecfaa.Mat
open Go.ChangeShapes Go.WideShapes Go.ChangeAt Go.RowKit
open FL
set_option linter.unusedVariables false
theorem ToF.mono {E v f B R R' : Rat} (h : ToF E v f B R) (hR : R ≤ R') : ToF E v f B R' := by
  rcases h with h | ⟨h1, h2, h3⟩
  · exact .inl h
  · exact .inr ⟨h1, by grind, by grind⟩
/-- a scaled channel: v = x / D, and back -/
theorem scale_in (x c : Nat) (fx : Finite x) (fc : Finite c) (M : Rat) (c1 : 825 / 1000 ≤ val c) (c2 : val c ≤ 965 / 1000) (M1 : 1 ≤ M) (M2 : M ≤ 1000000001) (h1 : -M ≤ val x) (h2 : val x ≤ M) :
    ∃ v, Ieee.double.div x c = some v ∧ Finite v ∧ -(1215 / 1000 * M) ≤ val v ∧ val v ≤ 1215 / 1000 * M ∧ -(1 / 1000000000000000 * M) ≤ val v * val c - val x ∧ val v * val c - val x ≤ 1 / 1000000000000000 * M := by
  obtain ⟨b22, b23⟩ := huge
  have hu : u = 1 / 9007199254740992 := rfl
  have he := eta_nano
  have he0 := eta_pos
  obtain ⟨v, hv⟩ : ∃ v, v * val c = val x := ⟨val x / val c, Rat.div_mul_cancel (by grind)⟩
  have v1 : v ≤ 1213 / 1000 * M := mul_le_cancel (show 0 < val c by grind) (by rw [hv]; have := Rat.mul_le_mul_of_nonneg_left c1 (show 0 ≤ 1213 / 1000 * M by grind); grind)
  have v2 : -(1213 / 1000 * M) ≤ v := mul_le_cancel (show 0 < val c by grind) (by rw [hv]; have := Rat.mul_le_mul_of_nonneg_left c1 (show 0 ≤ 1213 / 1000 * M by grind); grind)
  obtain ⟨r, e, fr, rr⟩ := div_ok x c fx fc (by grind) v hv (by grind) (by grind)
  have s := rr (1213 / 1000 * M) (by grind) (by grind)
  clear rr
  rw [hu] at s
  have d1 : -(4 / 10000000000000000 * M) ≤ val r - v := by grind
  have d2 : val r - v ≤ 4 / 10000000000000000 * M := by grind
  have k := abs_mul d1 d2 (b := val c) (B := 965 / 1000) (by grind) c2
  have ek : (val r - v) * val c = val r * val c - val x := by rw [← hv]; grind
  rw [ek] at k
  exact ⟨r, e, fr, by grind, by grind, by grind, by grind⟩
theorem scale_out (x c : Nat) (fx : Finite x) (fc : Finite c) (B : Rat) (c1 : 825 / 1000 ≤ val c) (c2 : val c ≤ 965 / 1000) (B1 : 1 / 1000 ≤ B) (B2 : B ≤ 100000000000) (h1 : -B ≤ val x) (h2 : val x ≤ B) :
    ∃ r, Ieee.double.mul x c = some r ∧ Rnd r (val x * val c) ∧ -(2 / 10000000000000000 * B) ≤ val r - val x * val c ∧ val r - val x * val c ≤ 2 / 10000000000000000 * B := by
  obtain ⟨b22, b23⟩ := huge
  have hu : u = 1 / 9007199254740992 := rfl
  have he := eta_nano
  have he0 := eta_pos
  have k := abs_mul h1 h2 (b := val c) (B := 965 / 1000) (by grind) c2
  obtain ⟨r, e, fr, rr⟩ := mul_ok x c fx fc (by grind) (by grind)
  have s := rr B (by grind) (by grind)
  rw [hu] at s
  exact ⟨r, e, ⟨fr, rr⟩, by grind, by grind⟩
/-- the bound of an angle -/
theorem ang_bound {E v f V M : Rat} (hM : 1 ≤ M) (hV : V ≤ 1215 / 1000 * M) (hV2 : M ≤ V) (l : -(78 / 10 * V + 15 / 100) ≤ f) (h : f ≤ 78 / 10 * V + 15 / 100 ∨ E < v) (h' : E < v → 0 ≤ f ∧ ∀ W, 1 ≤ W → V * (1 + 1 / 100000000000) ≤ W → f ≤ W) :
    ∃ s, 1 ≤ s ∧ s ≤ 78 / 10 * V + 15 / 100 * M ∧ (E < v → s ≤ 1216 / 1000 * M) ∧ -s ≤ f ∧ f ≤ s := by
  by_cases hE : E < v
  · obtain ⟨h0, hW⟩ := h' hE
    have := hW (1216 / 1000 * M) (by grind) (by grind)
    exact ⟨1216 / 1000 * M, by grind, by grind, fun _ => Rat.le_refl, by grind, this⟩
  · refine ⟨78 / 10 * V + 15 / 100 * M, by grind, Rat.le_refl, fun h => absurd h hE, by grind, ?_⟩
    rcases h with h | h
    · grind
    · exact absurd h hE
/-- a channel out and in again -/
theorem chan14 {v f F x X D y M s0 s1 e : Rat} (hM : 1 ≤ M) (hM2 : M ≤ 1000000001) (he : e ≤ 30 / 1000000000000000 * M) (hea : epsV < v → e ≤ 16 / 1000000000000000 * M) (e0 : 0 ≤ e) (hf : ToF epsV v f 1070 (2 / 100000000000000 * M)) (hF1 : -e ≤ F - f) (hF2 : F - f ≤ e) (hv1 : -(1215 / 1000 * M) ≤ v) (hv2 : v ≤ 1215 / 1000 * M) (hx : ToX F x (1 / 1000000000000 * M) (1 / 10000000000000 * M))
    (d1 : 825 / 1000 ≤ D) (d2 : D ≤ 965 / 1000) (k1 : -(1 / 1000000000000000 * M) ≤ v * D - y) (k2 : v * D - y ≤ 1 / 1000000000000000 * M) (r1 : -(2 / 10000000000000000 * (2 * M)) ≤ X - x * D) (r2 : X - x * D ≤ 2 / 10000000000000000 * (2 * M)) :
    -(7 / 100000000 * M) ≤ X - y ∧ X - y ≤ 7 / 100000000 * M := by
  obtain ⟨E1, E2⟩ := eps_ok
  obtain ⟨b1, b2⟩ := back14 hM hM2 e0 he hea E1 E2 hf hF1 hF2 (by grind) hx
  have k := abs_mul b1 b2 (b := D) (B := 965 / 1000) (by grind) d2
  have ek : (x - v) * D = x * D - v * D := by grind
  rw [ek] at k
  exact ⟨by grind, by grind⟩
set_option maxHeartbeats 1000000 in
theorem round14 (x y z : Nat) (fx : Finite x) (fy : Finite y) (fz : Finite z) (M : Rat) (hM : 1 ≤ M) (hM2 : M ≤ 1000000001) (x1 : -M ≤ val x) (x2 : val x ≤ M) (y1 : -M ≤ val y) (y2 : val y ≤ M) (z1 : -M ≤ val z) (z2 : val z ≤ M) :
    ∃ L A B X Y Z, (∀ w, Calls Try.prog 47 #[.agg #[.float .f64 x], .agg #[.float .f64 y], .agg #[.float .f64 z]] w fun e w' => e = .returned (.tuple #[.agg #[.float .f64 L], .agg #[.float .f64 A], .agg #[.float .f64 B]]) ∧ Below w.heap.size w w') ∧
      (∀ w, Calls Try.prog 46 #[.agg #[.float .f64 L], .agg #[.float .f64 A], .agg #[.float .f64 B]] w fun e w' => e = .returned (.tuple #[.agg #[.float .f64 X], .agg #[.float .f64 Y], .agg #[.float .f64 Z]]) ∧ Below w.heap.size w w') ∧ Finite X ∧ Finite Y ∧ Finite Z ∧
      (-(7 / 100000000 * M) ≤ val X - val x ∧ val X - val x ≤ 7 / 100000000 * M) ∧ (-(7 / 100000000 * M) ≤ val Y - val y ∧ val Y - val y ≤ 7 / 100000000 * M) ∧ (-(7 / 100000000 * M) ≤ val Z - val z ∧ val Z - val z ≤ 7 / 100000000 * M) := by
  obtain ⟨fdx, dx1, dx2⟩ := kDx
  obtain ⟨fdz, dz1, dz2⟩ := kDz
  obtain ⟨vx, hx1, fvx, vx1, vx2, vx3, vx4⟩ := scale_in x _ fx fdx M (by grind) (by grind) hM hM2 x1 x2
  obtain ⟨vz, hz1, fvz, vz1, vz2, vz3, vz4⟩ := scale_in z _ fz fdz M (by grind) (by grind) hM hM2 z1 z2
  obtain ⟨f0, W0, g0, t0, a0, b0, c0⟩ := tof_any vx fvx (1215 / 1000 * M) (by grind) (by grind) vx1 vx2
  obtain ⟨f1, W1, g1, t1, a1, b1, c1⟩ := tof_any y fy M (by grind) (by grind) y1 y2
  obtain ⟨f2, W2, g2, t2, a2, b2, c2⟩ := tof_any vz fvz (1215 / 1000 * M) (by grind) (by grind) vz1 vz2
  obtain ⟨s0, p0, q0, r0, l0, u0⟩ := ang_bound hM Rat.le_refl (by grind) a0 b0 c0
  obtain ⟨s1, p1, q1, r1, l1, u1⟩ := ang_bound hM (by grind) Rat.le_refl a1 b1 c1
  obtain ⟨s2, p2', q2, r2, l2, u2⟩ := ang_bound hM Rat.le_refl (by grind) a2 b2 c2
  clear a0 b0 c0 a1 b1 c1 a2 b2 c2
  obtain ⟨p, L, d1, A, d2, B, h1, h2, h3, h4, h5, h6, fL, fA, fB, ⟨L1, L2⟩, ⟨A1, A2⟩, ⟨B1, B2⟩⟩ := lab_of f0 f1 f2 g0 g1 g2 s0 s1 s2 p0 p1 p2' (by grind) (by grind) (by grind) l0 u0 l1 u1 l2 u2
  obtain ⟨S1, F1, da, F0, db, F2, k1, k2, k3, k4, k5, k6, fF1, fF0, fF2, ⟨n1, n2⟩, ⟨n3, n4⟩, ⟨n5, n6⟩⟩ := ang_of L A B fL fA fB (s1 + 3 / 10) ((s0 + s1) * (1 + 1 / 1000000)) ((s1 + s2) * (1 + 1 / 1000000)) (by grind) (by grind) (by grind) (by grind) (by grind) (by grind) (by grind) (by grind) (by grind) (by grind) (by grind) (by grind)
  obtain ⟨e0, he0⟩ : ∃ e0, e0 = (1603 / 100 * s1 + 801 / 100 * s0 + 22 / 10) / 9007199254740992 := ⟨_, rfl⟩
  obtain ⟨e2, he2⟩ : ∃ e2, e2 = (1603 / 100 * s1 + 801 / 100 * s2 + 22 / 10) / 9007199254740992 := ⟨_, rfl⟩
  obtain ⟨e1, he1⟩ : ∃ e1, e1 = (61 / 10 * s1 + 2) / 9007199254740992 := ⟨_, rfl⟩
  have i1 : -e0 ≤ val F0 - val f0 := by grind
  have i2 : val F0 - val f0 ≤ e0 := by grind
  have i3 : -e1 ≤ val F1 - val f1 := by grind
  have i4 : val F1 - val f1 ≤ e1 := by grind
  have i5 : -e2 ≤ val F2 - val f2 := by grind
  have i6 : val F2 - val f2 ≤ e2 := by grind
  clear n3 n4 n5 n6 A1 A2 B1 B2
  obtain ⟨P0, C0, xx, m1, m2, X0, fxx, T0⟩ := tox_any F0 fF0 (11 * M) (1 / 1000000000000 * M) (1 / 10000000000000 * M) (by grind) (by grind) (by grind) (by grind) (by grind) (by grind)
  obtain ⟨P2, C2, zz, m3, m4, X2, fzz, T2⟩ := tox_any F2 fF2 (11 * M) (1 / 1000000000000 * M) (1 / 10000000000000 * M) (by grind) (by grind) (by grind) (by grind) (by grind) (by grind)
  obtain ⟨Y, Y0, fY, T1⟩ := toy_any L F1 fL fF1 (s1 + 3 / 10) (1 / 1000000000000 * M) (1 / 10000000000000 * M) (by grind) (by grind) (by grind) (by grind) n1 n2 (by grind) (by grind) (by grind)
  have t0 := ToF.mono t0 (show 5 / 1000000000000000 * (1215 / 1000 * M + 1) ≤ 2 / 100000000000000 * M by grind)
  have t1 := ToF.mono t1 (show 5 / 1000000000000000 * (M + 1) ≤ 2 / 100000000000000 * M by grind)
  have t2 := ToF.mono t2 (show 5 / 1000000000000000 * (1215 / 1000 * M + 1) ≤ 2 / 100000000000000 * M by grind)
  obtain ⟨E1, E2⟩ := eps_ok
  have j0 := back14 hM hM2 (e := e0) (by grind) (by grind) (fun h => by have := r0 h; grind) E1 E2 t0 i1 i2 (by grind) T0
  have j1 := back14 hM hM2 (e := e1) (by grind) (by grind) (fun h => by grind) E1 E2 t1 i3 i4 (by grind) T1
  have j2 := back14 hM hM2 (e := e2) (by grind) (by grind) (fun h => by have := r2 h; grind) E1 E2 t2 i5 i6 (by grind) T2
  obtain ⟨X, o1, ⟨fX, -⟩, o2, o3⟩ := scale_out xx _ fxx fdx (2 * M) (by grind) (by grind) (by grind) (by grind) (by grind) (by grind)
  obtain ⟨Z, o4, ⟨fZ, -⟩, o5, o6⟩ := scale_out zz _ fzz fdz (2 * M) (by grind) (by grind) (by grind) (by grind) (by grind) (by grind)
  refine ⟨L, A, B, X, Y, Z, fun w => xyz_walk x y z vx vz f0 f1 f2 p L d1 A d2 B hx1 hz1 W0 W1 W2 h1 h2 h3 h4 h5 h6 w, fun w => lab_walk L A B S1 F1 da F0 db F2 P0 C0 P2 C2 xx Y zz X Z k1 k2 k3 k4 k5 k6 m1 m2 m3 m4 X0 Y0 X2 o1 o4 w, fX, fY, fZ, ?_, ?_, ?_⟩
  · exact chan14 (s0 := s0) (s1 := s1) hM hM2 (e := e0) (by grind) (fun h => by have := r0 h; grind) (by grind) t0 i1 i2 vx1 vx2 T0 (by grind) (by grind) vx3 vx4 o2 o3
  · exact ⟨by grind, by grind⟩
  · exact chan14 (s0 := s0) (s1 := s1) hM hM2 (e := e2) (by grind) (fun h => by have := r2 h; grind) (by grind) t2 i5 i6 vz1 vz2 T2 (by grind) (by grind) vz3 vz4 o5 o6
/-- a channel scaled out and in again -/
theorem scale_rt (x c : Nat) (fx : Finite x) (fc : Finite c) (c1 : 825 / 1000 ≤ val c) (c2 : val c ≤ 965 / 1000) (h1 : -3000 ≤ val x) (h2 : val x ≤ 3000) :
    ∃ X v, Ieee.double.mul x c = some X ∧ Ieee.double.div X c = some v ∧ Finite X ∧ Finite v ∧ ∀ B, -B ≤ val x → val x ≤ B → -(4 / 10000000000000000 * B + 1 / 1000000000000000000) ≤ val v - val x ∧ val v - val x ≤ 4 / 10000000000000000 * B + 1 / 1000000000000000000 := by
  obtain ⟨b22, b23⟩ := huge
  have hu : u = 1 / 9007199254740992 := rfl
  have he := eta_nano
  have he0 := eta_pos
  have k := abs_mul h1 h2 (b := val c) (B := 965 / 1000) (by grind) c2
  obtain ⟨X, e, fX, rX⟩ := mul_ok x c fx fc (by grind) (by grind)
  have sX := rX 3000 (by grind) (by grind)
  obtain ⟨w, hw⟩ : ∃ w, w * val c = val X := ⟨val X / val c, Rat.div_mul_cancel (by grind)⟩
  rw [hu] at sX
  have w1 : w ≤ 4000 := mul_le_cancel (show 0 < val c by grind) (by rw [hw]; grind)
  have w2 : -4000 ≤ w := mul_le_cancel (show 0 < val c by grind) (by rw [hw]; grind)
  obtain ⟨v, e2, fv, rv⟩ := div_ok X c fX fc (by grind) w hw (by grind) (by grind)
  refine ⟨X, v, e, e2, fX, fv, fun B hB1 hB2 => ?_⟩
  have kB := abs_mul hB1 hB2 (b := val c) (B := val c) (by grind) Rat.le_refl
  have s1 := rX (B * val c) (by grind) (by grind)
  rw [hu] at s1
  have wB1 : w ≤ B * (1 + 1 / 9007199254740992) + 2 * eta := mul_le_cancel (show 0 < val c by grind) (by rw [hw]; have := Rat.mul_le_mul_of_nonneg_left c1 (Rat.le_of_lt he0); grind)
  have wB2 : -(B * (1 + 1 / 9007199254740992) + 2 * eta) ≤ w := mul_le_cancel (show 0 < val c by grind) (by rw [hw]; have := Rat.mul_le_mul_of_nonneg_left c1 (Rat.le_of_lt he0); grind)
  have dw : (w - val x) * val c = val X - val x * val c := by rw [← hw]; grind
  have d1 : w - val x ≤ B * (1 / 9007199254740992) + 2 * eta := mul_le_cancel (show 0 < val c by grind) (by rw [dw]; have := Rat.mul_le_mul_of_nonneg_left c1 (Rat.le_of_lt he0); grind)
  have d2 : -(B * (1 / 9007199254740992) + 2 * eta) ≤ w - val x := mul_le_cancel (show 0 < val c by grind) (by rw [dw]; have := Rat.mul_le_mul_of_nonneg_left c1 (Rat.le_of_lt he0); grind)
  have s2 := rv (B * (1 + 1 / 9007199254740992) + 2 * eta) wB2 wB1
  rw [hu] at s2
  clear rX rv sX s1 dw hw kB k b22 b23
  exact ⟨by grind, by grind⟩
theorem tof7 (v : Nat) (fv : Finite v) (h1 : -2 ≤ val v) (h2 : val v ≤ 3000) : ∃ f, Fway v f ∧ Finite f ∧ ToF epsV (val v) (val f) 1070 (2 / 100000000000000 * 2) := by
  obtain ⟨E1, E2⟩ := eps_ok
  by_cases h : val v ≤ 2
  · obtain ⟨f, W, g, t, -⟩ := tof_any v fv 2 (by grind) (by grind) (by grind) (by grind)
    exact ⟨f, W, g, ToF.mono t (by decide +kernel)⟩
  · obtain ⟨f, W, g, t, -⟩ := tof_any v fv 3000 (by grind) (by grind) (by grind) (by grind)
    refine ⟨f, W, g, ?_⟩
    rcases t with t | ⟨t, -⟩
    · exact .inl t
    · exfalso; grind
theorem tox_bound {F x : Rat} (F1 : -14 ≤ F) (F2 : F ≤ 14) (h : ToX F x (1 / 1000000000000) (1 / 10000000000000)) : -(19 / 10) ≤ x ∧ x ≤ 2800 := by
  rcases h with ⟨h1, h2, h3⟩ | ⟨h1, h2, h3⟩
  · have c1 := cube_mono (show (0 : Rat) ≤ 0 by decide +kernel) (show 0 ≤ F by grind)
    have c2 := cube_mono (show 0 ≤ F by grind) F2
    generalize F * F * F = FFF at *
    exact ⟨by grind, by grind⟩
  · exact ⟨by grind, by grind⟩
theorem back_of {x v : Rat} (h : ∀ B, -B ≤ x → x ≤ B → -(4 / 10000000000000000 * B + 1 / 1000000000000000000) ≤ v - x ∧ v - x ≤ 4 / 10000000000000000 * B + 1 / 1000000000000000000) :
    (0 ≤ x → x * (1 - 1 / 1000000000000000) - 1 / 1000000000000000000 ≤ v ∧ v ≤ x * (1 + 1 / 1000000000000000) + 1 / 1000000000000000000) ∧ (-4 ≤ x → x ≤ 4 → -(5 / 1000000000000000) ≤ v - x ∧ v - x ≤ 5 / 1000000000000000) := by
  refine ⟨fun h0 => ?_, fun h0 h1 => ?_⟩
  · have := h x (by grind) Rat.le_refl
    clear h
    exact ⟨by grind, by grind⟩
  · have := h 4 h0 h1
    clear h
    exact ⟨by grind, by grind⟩
set_option maxHeartbeats 1000000 in
theorem round7 (l a b : Nat) (fl : Finite l) (fa : Finite a) (fb : Finite b) (l1 : -1000 ≤ val l) (l2 : val l ≤ 1000) (a1 : -1000 ≤ val a) (a2 : val a ≤ 1000) (b1 : -1000 ≤ val b) (b2 : val b ≤ 1000) :
    ∃ X Y Z L A B, (∀ w, Calls Try.prog 46 #[.agg #[.float .f64 l], .agg #[.float .f64 a], .agg #[.float .f64 b]] w fun e w' => e = .returned (.tuple #[.agg #[.float .f64 X], .agg #[.float .f64 Y], .agg #[.float .f64 Z]]) ∧ Below w.heap.size w w') ∧
      (∀ w, Calls Try.prog 47 #[.agg #[.float .f64 X], .agg #[.float .f64 Y], .agg #[.float .f64 Z]] w fun e w' => e = .returned (.tuple #[.agg #[.float .f64 L], .agg #[.float .f64 A], .agg #[.float .f64 B]]) ∧ Below w.heap.size w w') ∧ Finite L ∧ Finite A ∧ Finite B ∧
      (-(9 / 100000000) ≤ val L - val l ∧ val L - val l ≤ 9 / 100000000) ∧ (-(9 / 100000000) ≤ val A - val a ∧ val A - val a ≤ 9 / 100000000) ∧ (-(9 / 100000000) ≤ val B - val b ∧ val B - val b ≤ 9 / 100000000) := by
  obtain ⟨fdx, dx1, dx2⟩ := kDx
  obtain ⟨fdz, dz1, dz2⟩ := kDz
  obtain ⟨E1, E2⟩ := eps_ok
  obtain ⟨S1, F1, da, F0, db, F2, k1, k2, k3, k4, k5, k6, fF1, fF0, fF2, ⟨n1, n2⟩, ⟨n3, n4⟩, ⟨n5, n6⟩⟩ := ang_of l a b fl fa fb 9 2 5 (by decide +kernel) (by decide +kernel) (by decide +kernel) (by decide +kernel) (by decide +kernel) (by decide +kernel) (by grind) (by grind) (by grind) (by grind) (by grind) (by grind)
  obtain ⟨P0, C0, xx, m1, m2, X0, fxx, T0⟩ := tox_any F0 fF0 14 (1 / 1000000000000) (1 / 10000000000000) (by decide +kernel) (by decide +kernel) (by grind) (by grind) (by decide +kernel) (by decide +kernel)
  obtain ⟨P2, C2, zz, m3, m4, X2, fzz, T2⟩ := tox_any F2 fF2 14 (1 / 1000000000000) (1 / 10000000000000) (by decide +kernel) (by decide +kernel) (by grind) (by grind) (by decide +kernel) (by decide +kernel)
  obtain ⟨Y, Y0, fY, T1⟩ := toy_any l F1 fl fF1 9 (1 / 1000000000000) (1 / 10000000000000) (by decide +kernel) (by decide +kernel) (by grind) (by grind) n1 n2 (by decide +kernel) (by decide +kernel) (by decide +kernel)
  obtain ⟨x1, x2⟩ := tox_bound (by grind) (by grind) T0
  obtain ⟨y1, y2⟩ := tox_bound (by grind) (by grind) T1
  obtain ⟨z1, z2⟩ := tox_bound (by grind) (by grind) T2
  obtain ⟨X, vx, o1, o2, fX, fvx, rx⟩ := scale_rt xx _ fxx fdx (by grind) (by grind) (by grind) (by grind)
  obtain ⟨Z, vz, o3, o4, fZ, fvz, rz⟩ := scale_rt zz _ fzz fdz (by grind) (by grind) (by grind) (by grind)
  have B0 := back_of rx
  have B2 := back_of rz
  have B1 := back_of (x := val Y) (v := val Y) (fun B h1 h2 => ⟨by grind, by grind⟩)
  have Q0 := rx 2800 (by grind) x2
  have Q2 := rz 2800 (by grind) z2
  clear rx rz
  obtain ⟨g0, W0, h0, t0⟩ := tof7 vx fvx (by clear B0 B1 B2; grind) (by clear B0 B1 B2; grind)
  obtain ⟨g1, W1, h1, t1⟩ := tof7 Y fY (by grind) (by grind)
  obtain ⟨g2, W2, h2, t2⟩ := tof7 vz fvz (by clear B0 B1 B2; grind) (by clear B0 B1 B2; grind)
  obtain ⟨j1, j2⟩ := fwd7 E1 E2 (by grind) (by grind) T0 B0 t0
  obtain ⟨j3, j4⟩ := fwd7 E1 E2 (by grind) (by grind) T1 B1 t1
  obtain ⟨j5, j6⟩ := fwd7 E1 E2 (by grind) (by grind) T2 B2 t2
  clear B0 B1 B2 t0 t1 t2 T0 T1 T2
  obtain ⟨p, L, d1, A, d2, B, q1, q2, q3, q4, q5, q6, fL, fA, fB, ⟨L1, L2⟩, ⟨A1, A2⟩, ⟨B1, B2⟩⟩ := lab_of g0 g1 g2 h0 h1 h2 15 15 15 (by decide +kernel) (by decide +kernel) (by decide +kernel) (by decide +kernel) (by decide +kernel) (by decide +kernel) (by grind) (by grind) (by grind) (by grind) (by grind) (by grind)
  exact ⟨X, Y, Z, L, A, B, fun w => lab_walk l a b S1 F1 da F0 db F2 P0 C0 P2 C2 xx Y zz X Z k1 k2 k3 k4 k5 k6 m1 m2 m3 m4 X0 Y0 X2 o1 o3 w, fun w => xyz_walk X Y Z vx vz g0 g1 g2 p L d1 A d2 B o2 o4 W0 W1 W2 q1 q2 q3 q4 q5 q6 w, fL, fA, fB, ⟨by grind, by grind⟩, ⟨by grind, by grind⟩, ⟨by grind, by grind⟩⟩
end Go.Proofs.Ytafeeebgleecfaa.Mat
