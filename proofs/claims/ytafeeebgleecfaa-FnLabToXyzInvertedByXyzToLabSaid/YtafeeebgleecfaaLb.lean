/-
  xyz_to_lab and lab_to_xyz, a contract each, with their rounding.
-/
import Derived.Test.YtafeeebgleecfaaLab
import Derived.Test.YtafeeebgleecfaaXyz
import Derived.Test.YtafeeebgleecfaaFNA
namespace Go.Proofs.Ytafeeebgleecfaa.Mat
open Go.ChangeShapes Go.WideShapes Go.ChangeAt Go.RowKit
open FL
set_option linter.unusedVariables false
def Fway (v f : Nat) : Prop := (gtB v 4576259018578689238 = true ∧ ∀ w, Calls Try.prog 67 #[.agg #[.float .f64 v]] w fun e w' => e = .returned (.agg #[.float .f64 f]) ∧ Below w.heap.size w w') ∨ (gtB v 4576259018578689238 = false ∧ ∃ m a, Ieee.double.mul v 4651156694067819558 = some m ∧ Ieee.double.add m 4625196817309499392 = some a ∧ Ieee.double.div a 4637863191261478912 = some f)
def Xway (F c x : Nat) : Prop := (gtB c 4576259018578689238 = true ∧ x = c) ∨ (gtB c 4576259018578689238 = false ∧ ∃ p v, Ieee.double.mul F 4637863191261478912 = some p ∧ Ieee.double.sub p 4625196817309499392 = some v ∧ Ieee.double.div v 4651156694067819558 = some x)
def Yway (l F y : Nat) : Prop := (gtB l 4620693217682128896 = true ∧ ∃ p, Ieee.double.mul F F = some p ∧ Ieee.double.mul p F = some y) ∨ (gtB l 4620693217682128896 = false ∧ Ieee.double.div l 4651156694067819558 = some y)
theorem xyz_walk (x y z x1 z1 f0 f1 f2 p L d1 A d2 B : Nat) (hx1 : Ieee.double.div x 4606860822843362778 = some x1) (hz1 : Ieee.double.div z 4605607101106091996 = some z1) (W0 : Fway x1 f0) (W1 : Fway y f1) (W2 : Fway z1 f2)
    (hp : Ieee.double.mul f1 4637863191261478912 = some p) (hL : Ieee.double.sub p 4625196817309499392 = some L) (hd1 : Ieee.double.sub f0 f1 = some d1) (hA : Ieee.double.mul d1 4647503709213818880 = some A) (hd2 : Ieee.double.sub f1 f2 = some d2) (hB : Ieee.double.mul d2 4641240890982006784 = some B) (w : World) :
    Calls Try.prog 47 #[.agg #[.float .f64 x], .agg #[.float .f64 y], .agg #[.float .f64 z]] w fun e w' => e = .returned (.tuple #[.agg #[.float .f64 L], .agg #[.float .f64 A], .agg #[.float .f64 B]]) ∧ Below w.heap.size w w' := by
  rcases W0 with ⟨q0, c0⟩ | ⟨q0, m0, a0, hm0, ha0, hf0⟩
  · rcases W1 with ⟨q1, c1⟩ | ⟨q1, m1, a1, hm1, ha1, hf1⟩
    · rcases W2 with ⟨q2, c2⟩ | ⟨q2, m2, a2, hm2, ha2, hf2⟩
      · exact xl_ttt x y z x1 z1 f0 f1 f2 p L d1 A d2 B w.heap.size w (Lib.hid rfl) (Lib.hid hx1) (Lib.hid hz1) (Lib.hid q0) (Lib.hid c0) (Lib.hid q1) (Lib.hid c1) (Lib.hid q2) (Lib.hid c2) (Lib.hid hp) (Lib.hid hL) (Lib.hid hd1) (Lib.hid hA) (Lib.hid hd2) (Lib.hid hB)
      · exact xl_ttf x y z x1 z1 f0 f1 m2 a2 f2 p L d1 A d2 B w.heap.size w (Lib.hid rfl) (Lib.hid hx1) (Lib.hid hz1) (Lib.hid q0) (Lib.hid c0) (Lib.hid q1) (Lib.hid c1) (Lib.hid q2) (Lib.hid hm2) (Lib.hid ha2) (Lib.hid hf2) (Lib.hid hp) (Lib.hid hL) (Lib.hid hd1) (Lib.hid hA) (Lib.hid hd2) (Lib.hid hB)
    · rcases W2 with ⟨q2, c2⟩ | ⟨q2, m2, a2, hm2, ha2, hf2⟩
      · exact xl_tft x y z x1 z1 f0 m1 a1 f1 f2 p L d1 A d2 B w.heap.size w (Lib.hid rfl) (Lib.hid hx1) (Lib.hid hz1) (Lib.hid q0) (Lib.hid c0) (Lib.hid q1) (Lib.hid hm1) (Lib.hid ha1) (Lib.hid hf1) (Lib.hid q2) (Lib.hid c2) (Lib.hid hp) (Lib.hid hL) (Lib.hid hd1) (Lib.hid hA) (Lib.hid hd2) (Lib.hid hB)
      · exact xl_tff x y z x1 z1 f0 m1 a1 f1 m2 a2 f2 p L d1 A d2 B w.heap.size w (Lib.hid rfl) (Lib.hid hx1) (Lib.hid hz1) (Lib.hid q0) (Lib.hid c0) (Lib.hid q1) (Lib.hid hm1) (Lib.hid ha1) (Lib.hid hf1) (Lib.hid q2) (Lib.hid hm2) (Lib.hid ha2) (Lib.hid hf2) (Lib.hid hp) (Lib.hid hL) (Lib.hid hd1) (Lib.hid hA) (Lib.hid hd2) (Lib.hid hB)
  · rcases W1 with ⟨q1, c1⟩ | ⟨q1, m1, a1, hm1, ha1, hf1⟩
    · rcases W2 with ⟨q2, c2⟩ | ⟨q2, m2, a2, hm2, ha2, hf2⟩
      · exact xl_ftt x y z x1 z1 m0 a0 f0 f1 f2 p L d1 A d2 B w.heap.size w (Lib.hid rfl) (Lib.hid hx1) (Lib.hid hz1) (Lib.hid q0) (Lib.hid hm0) (Lib.hid ha0) (Lib.hid hf0) (Lib.hid q1) (Lib.hid c1) (Lib.hid q2) (Lib.hid c2) (Lib.hid hp) (Lib.hid hL) (Lib.hid hd1) (Lib.hid hA) (Lib.hid hd2) (Lib.hid hB)
      · exact xl_ftf x y z x1 z1 m0 a0 f0 f1 m2 a2 f2 p L d1 A d2 B w.heap.size w (Lib.hid rfl) (Lib.hid hx1) (Lib.hid hz1) (Lib.hid q0) (Lib.hid hm0) (Lib.hid ha0) (Lib.hid hf0) (Lib.hid q1) (Lib.hid c1) (Lib.hid q2) (Lib.hid hm2) (Lib.hid ha2) (Lib.hid hf2) (Lib.hid hp) (Lib.hid hL) (Lib.hid hd1) (Lib.hid hA) (Lib.hid hd2) (Lib.hid hB)
    · rcases W2 with ⟨q2, c2⟩ | ⟨q2, m2, a2, hm2, ha2, hf2⟩
      · exact xl_fft x y z x1 z1 m0 a0 f0 m1 a1 f1 f2 p L d1 A d2 B w.heap.size w (Lib.hid rfl) (Lib.hid hx1) (Lib.hid hz1) (Lib.hid q0) (Lib.hid hm0) (Lib.hid ha0) (Lib.hid hf0) (Lib.hid q1) (Lib.hid hm1) (Lib.hid ha1) (Lib.hid hf1) (Lib.hid q2) (Lib.hid c2) (Lib.hid hp) (Lib.hid hL) (Lib.hid hd1) (Lib.hid hA) (Lib.hid hd2) (Lib.hid hB)
      · exact xl_fff x y z x1 z1 m0 a0 f0 m1 a1 f1 m2 a2 f2 p L d1 A d2 B w.heap.size w (Lib.hid rfl) (Lib.hid hx1) (Lib.hid hz1) (Lib.hid q0) (Lib.hid hm0) (Lib.hid ha0) (Lib.hid hf0) (Lib.hid q1) (Lib.hid hm1) (Lib.hid ha1) (Lib.hid hf1) (Lib.hid q2) (Lib.hid hm2) (Lib.hid ha2) (Lib.hid hf2) (Lib.hid hp) (Lib.hid hL) (Lib.hid hd1) (Lib.hid hA) (Lib.hid hd2) (Lib.hid hB)
theorem lab_walk (l a b s1 f1 da f0 db f2 p0 f03 p2 f23 x y z X Z : Nat) (hs1 : Ieee.double.add l 4625196817309499392 = some s1) (hf1 : Ieee.double.div s1 4637863191261478912 = some f1) (hda : Ieee.double.div a 4647503709213818880 = some da) (hf0 : Ieee.double.add da f1 = some f0) (hdb : Ieee.double.div b 4641240890982006784 = some db) (hf2 : Ieee.double.sub f1 db = some f2)
    (hp0 : Ieee.double.mul f0 f0 = some p0) (hf03 : Ieee.double.mul p0 f0 = some f03) (hp2 : Ieee.double.mul f2 f2 = some p2) (hf23 : Ieee.double.mul p2 f2 = some f23) (W0 : Xway f0 f03 x) (W1 : Yway l f1 y) (W2 : Xway f2 f23 z) (hX : Ieee.double.mul x 4606860822843362778 = some X) (hZ : Ieee.double.mul z 4605607101106091996 = some Z) (w : World) :
    Calls Try.prog 46 #[.agg #[.float .f64 l], .agg #[.float .f64 a], .agg #[.float .f64 b]] w fun e w' => e = .returned (.tuple #[.agg #[.float .f64 X], .agg #[.float .f64 y], .agg #[.float .f64 Z]]) ∧ Below w.heap.size w w' := by
  rcases W0 with ⟨q0, rfl⟩ | ⟨q0, u0, v0, hu0, hv0, hx⟩
  · rcases W1 with ⟨q1, py, hpy, hy⟩ | ⟨q1, hy⟩
    · rcases W2 with ⟨q2, rfl⟩ | ⟨q2, u2, v2, hu2, hv2, hz⟩
      · exact lx_ttt l a b s1 f1 da f0 db f2 p0 x p2 z py y X Z w.heap.size w (Lib.hid rfl) (Lib.hid hs1) (Lib.hid hf1) (Lib.hid hda) (Lib.hid hf0) (Lib.hid hdb) (Lib.hid hf2) (Lib.hid hp0) (Lib.hid hf03) (Lib.hid hp2) (Lib.hid hf23) (Lib.hid q0) (Lib.hid q1) (Lib.hid hpy) (Lib.hid hy) (Lib.hid q2) (Lib.hid hX) (Lib.hid hZ)
      · exact lx_ttf l a b s1 f1 da f0 db f2 p0 x p2 f23 py y u2 v2 z X Z w.heap.size w (Lib.hid rfl) (Lib.hid hs1) (Lib.hid hf1) (Lib.hid hda) (Lib.hid hf0) (Lib.hid hdb) (Lib.hid hf2) (Lib.hid hp0) (Lib.hid hf03) (Lib.hid hp2) (Lib.hid hf23) (Lib.hid q0) (Lib.hid q1) (Lib.hid hpy) (Lib.hid hy) (Lib.hid q2) (Lib.hid hu2) (Lib.hid hv2) (Lib.hid hz) (Lib.hid hX) (Lib.hid hZ)
    · rcases W2 with ⟨q2, rfl⟩ | ⟨q2, u2, v2, hu2, hv2, hz⟩
      · exact lx_tft l a b s1 f1 da f0 db f2 p0 x p2 z y X Z w.heap.size w (Lib.hid rfl) (Lib.hid hs1) (Lib.hid hf1) (Lib.hid hda) (Lib.hid hf0) (Lib.hid hdb) (Lib.hid hf2) (Lib.hid hp0) (Lib.hid hf03) (Lib.hid hp2) (Lib.hid hf23) (Lib.hid q0) (Lib.hid q1) (Lib.hid hy) (Lib.hid q2) (Lib.hid hX) (Lib.hid hZ)
      · exact lx_tff l a b s1 f1 da f0 db f2 p0 x p2 f23 y u2 v2 z X Z w.heap.size w (Lib.hid rfl) (Lib.hid hs1) (Lib.hid hf1) (Lib.hid hda) (Lib.hid hf0) (Lib.hid hdb) (Lib.hid hf2) (Lib.hid hp0) (Lib.hid hf03) (Lib.hid hp2) (Lib.hid hf23) (Lib.hid q0) (Lib.hid q1) (Lib.hid hy) (Lib.hid q2) (Lib.hid hu2) (Lib.hid hv2) (Lib.hid hz) (Lib.hid hX) (Lib.hid hZ)
  · rcases W1 with ⟨q1, py, hpy, hy⟩ | ⟨q1, hy⟩
    · rcases W2 with ⟨q2, rfl⟩ | ⟨q2, u2, v2, hu2, hv2, hz⟩
      · exact lx_ftt l a b s1 f1 da f0 db f2 p0 f03 p2 z u0 v0 x py y X Z w.heap.size w (Lib.hid rfl) (Lib.hid hs1) (Lib.hid hf1) (Lib.hid hda) (Lib.hid hf0) (Lib.hid hdb) (Lib.hid hf2) (Lib.hid hp0) (Lib.hid hf03) (Lib.hid hp2) (Lib.hid hf23) (Lib.hid q0) (Lib.hid hu0) (Lib.hid hv0) (Lib.hid hx) (Lib.hid q1) (Lib.hid hpy) (Lib.hid hy) (Lib.hid q2) (Lib.hid hX) (Lib.hid hZ)
      · exact lx_ftf l a b s1 f1 da f0 db f2 p0 f03 p2 f23 u0 v0 x py y u2 v2 z X Z w.heap.size w (Lib.hid rfl) (Lib.hid hs1) (Lib.hid hf1) (Lib.hid hda) (Lib.hid hf0) (Lib.hid hdb) (Lib.hid hf2) (Lib.hid hp0) (Lib.hid hf03) (Lib.hid hp2) (Lib.hid hf23) (Lib.hid q0) (Lib.hid hu0) (Lib.hid hv0) (Lib.hid hx) (Lib.hid q1) (Lib.hid hpy) (Lib.hid hy) (Lib.hid q2) (Lib.hid hu2) (Lib.hid hv2) (Lib.hid hz) (Lib.hid hX) (Lib.hid hZ)
    · rcases W2 with ⟨q2, rfl⟩ | ⟨q2, u2, v2, hu2, hv2, hz⟩
      · exact lx_fft l a b s1 f1 da f0 db f2 p0 f03 p2 z u0 v0 x y X Z w.heap.size w (Lib.hid rfl) (Lib.hid hs1) (Lib.hid hf1) (Lib.hid hda) (Lib.hid hf0) (Lib.hid hdb) (Lib.hid hf2) (Lib.hid hp0) (Lib.hid hf03) (Lib.hid hp2) (Lib.hid hf23) (Lib.hid q0) (Lib.hid hu0) (Lib.hid hv0) (Lib.hid hx) (Lib.hid q1) (Lib.hid hy) (Lib.hid q2) (Lib.hid hX) (Lib.hid hZ)
      · exact lx_fff l a b s1 f1 da f0 db f2 p0 f03 p2 f23 u0 v0 x y u2 v2 z X Z w.heap.size w (Lib.hid rfl) (Lib.hid hs1) (Lib.hid hf1) (Lib.hid hda) (Lib.hid hf0) (Lib.hid hdb) (Lib.hid hf2) (Lib.hid hp0) (Lib.hid hf03) (Lib.hid hp2) (Lib.hid hf23) (Lib.hid q0) (Lib.hid hu0) (Lib.hid hv0) (Lib.hid hx) (Lib.hid q1) (Lib.hid hy) (Lib.hid q2) (Lib.hid hu2) (Lib.hid hv2) (Lib.hid hz) (Lib.hid hX) (Lib.hid hZ)
def epsV : Rat := val 4576259018578689238
theorem eps_ok : -(1 / 100000000000000000) ≤ epsV - 216 / 24389 ∧ epsV - 216 / 24389 ≤ 1 / 100000000000000000 := ⟨kEpl.2.1, kEpl.2.2⟩
/-- a channel's angle -/
theorem tof_any (v : Nat) (fv : Finite v) (V : Rat) (hV : V ≤ 1220000000) (hV0 : 0 ≤ V) (h1 : -V ≤ val v) (h2 : val v ≤ V) :
    ∃ f, Fway v f ∧ Finite f ∧ ToF epsV (val v) (val f) 1070 (5 / 1000000000000000 * (V + 1)) ∧ -(78 / 10 * V + 15 / 100) ≤ val f ∧ (val f ≤ 78 / 10 * V + 15 / 100 ∨ epsV < val v) ∧ (epsV < val v → 0 ≤ val f ∧ ∀ W, 1 ≤ W → V * (1 + 1 / 100000000000) ≤ W → val f ≤ W) := by
  obtain ⟨E1, E2⟩ := eps_ok
  obtain ⟨fe, -, -⟩ := kEpl
  have hg : gtB v 4576259018578689238 = decide (epsV < val v) := gtB_ok fv fe
  by_cases h : epsV < val v
  · rw [decide_eq_true h] at hg
    have p9 : p2 (-9) = 1 / 512 := by decide +kernel
    have p40 : p2 40 = 1099511627776 := by decide +kernel
    obtain ⟨t, ht, ft, t0, t1, t2⟩ := fcbrt_any v fv (by rw [p9]; grind) (by rw [p40]; grind)
    have b1 : val t ≤ 1070 := cube_le_inv (by decide +kernel) (by clear hg; grind)
    have b2 : ∀ W, 1 ≤ W → V * (1 + 1 / 100000000000) ≤ W → val t ≤ W := by
      intro W hW1 hW2
      rcases (by grind : val t ≤ 1 ∨ 1 ≤ val t) with h3 | h3
      · grind
      · have q1 := Rat.mul_le_mul_of_nonneg_left h3 (show 0 ≤ val t by grind)
        have q2 := Rat.mul_le_mul_of_nonneg_left h3 (Rat.mul_nonneg (show 0 ≤ val t by grind) (show 0 ≤ val t by grind))
        clear hg
        grind
    exact ⟨t, .inl ⟨hg, ht⟩, ft, .inl ⟨h, by grind, b1, t1, t2⟩, by grind, .inr h, fun _ => ⟨by grind, b2⟩⟩
  · rw [decide_eq_false h] at hg
    obtain ⟨m, a, f, e1, e2, e3, ff, r1, r2⟩ := lin_f v fv V (by grind) h1 h2
    exact ⟨f, .inr ⟨hg, m, a, e1, e2, e3⟩, ff, .inr ⟨by grind, r1, r2⟩, by grind, .inl (by grind), fun h' => absurd h' h⟩
/-- the three numbers of Lab out of the three angles -/
theorem lab_of (f0 f1 f2 : Nat) (g0 : Finite f0) (g1 : Finite f1) (g2 : Finite f2) (s0 s1 s2 : Rat) (b0 : 1 ≤ s0) (b1 : 1 ≤ s1) (b2 : 1 ≤ s2) (c0 : s0 ≤ 1000000000000) (c1 : s1 ≤ 1000000000000) (c2 : s2 ≤ 1000000000000)
    (l0 : -s0 ≤ val f0) (u0 : val f0 ≤ s0) (l1 : -s1 ≤ val f1) (u1 : val f1 ≤ s1) (l2 : -s2 ≤ val f2) (u2 : val f2 ≤ s2) :
    ∃ p L d1 A d2 B, Ieee.double.mul f1 4637863191261478912 = some p ∧ Ieee.double.sub p 4625196817309499392 = some L ∧ Ieee.double.sub f0 f1 = some d1 ∧ Ieee.double.mul d1 4647503709213818880 = some A ∧ Ieee.double.sub f1 f2 = some d2 ∧ Ieee.double.mul d2 4641240890982006784 = some B ∧ Finite L ∧ Finite A ∧ Finite B ∧
      (-((234 * s1 + 18) / 9007199254740992) ≤ val L - (116 * val f1 - 16) ∧ val L - (116 * val f1 - 16) ≤ (234 * s1 + 18) / 9007199254740992) ∧ (-(1001 * (s0 + s1) / 9007199254740992) ≤ val A - 500 * (val f0 - val f1) ∧ val A - 500 * (val f0 - val f1) ≤ 1001 * (s0 + s1) / 9007199254740992) ∧ (-(401 * (s1 + s2) / 9007199254740992) ≤ val B - 200 * (val f1 - val f2) ∧ val B - 200 * (val f1 - val f2) ≤ 401 * (s1 + s2) / 9007199254740992) := by
  obtain ⟨b22, b23⟩ := huge
  have hu : u = 1 / 9007199254740992 := rfl
  have he := eta_nano
  have he0 := eta_pos
  obtain ⟨x6, v6⟩ := k16
  obtain ⟨x1, v1⟩ := k116
  obtain ⟨x5, v5⟩ := k500
  obtain ⟨x2, v2⟩ := k200
  obtain ⟨p, e1, fp, r1⟩ := mul_ok f1 4637863191261478912 g1 x1 (by rw [v1]; grind) (by rw [v1]; grind)
  rw [v1] at r1
  have a1 := r1 (116 * s1) (by grind) (by grind)
  clear r1
  rw [hu] at a1
  obtain ⟨L, e2, fL, r2⟩ := sub_ok p 4625196817309499392 fp x6 (by rw [v6]; grind) (by rw [v6]; grind)
  rw [v6] at r2
  have a2 := r2 (117 * s1 + 17) (by grind) (by grind)
  clear r2
  rw [hu] at a2
  obtain ⟨d1, e3, fd1, r3⟩ := sub_ok f0 f1 g0 g1 (by grind) (by grind)
  have a3 := r3 (s0 + s1) (by grind) (by grind)
  clear r3
  rw [hu] at a3
  obtain ⟨A, e4, fA, r4⟩ := mul_ok d1 4647503709213818880 fd1 x5 (by rw [v5]; grind) (by rw [v5]; grind)
  rw [v5] at r4
  have a4 := r4 (500 * (s0 + s1) + (s0 + s1) / 10000) (by grind) (by grind)
  clear r4
  rw [hu] at a4
  obtain ⟨d2, e5, fd2, r5⟩ := sub_ok f1 f2 g1 g2 (by grind) (by grind)
  have a5 := r5 (s1 + s2) (by grind) (by grind)
  clear r5
  rw [hu] at a5
  obtain ⟨B, e6, fB, r6⟩ := mul_ok d2 4641240890982006784 fd2 x2 (by rw [v2]; grind) (by rw [v2]; grind)
  rw [v2] at r6
  have a6 := r6 (200 * (s1 + s2) + (s1 + s2) / 10000) (by grind) (by grind)
  clear r6
  rw [hu] at a6
  clear b22 b23
  exact ⟨p, L, d1, A, d2, B, e1, e2, e3, e4, e5, e6, fL, fA, fB, ⟨by grind, by grind⟩, ⟨by grind, by grind⟩, ⟨by grind, by grind⟩⟩
/-- the way back of a cubed angle -/
theorem tox_any (F : Nat) (fF : Finite F) (S D R : Rat) (hS : S ≤ 100000000000) (hS0 : 1 ≤ S) (h1 : -S ≤ val F) (h2 : val F ≤ S) (hD : 1 / 1000000000000 ≤ D) (hR : 1 / 1000000000000000 * S ≤ R) :
    ∃ p c x, Ieee.double.mul F F = some p ∧ Ieee.double.mul p F = some c ∧ Xway F c x ∧ Finite x ∧ ToX (val F) (val x) D R := by
  obtain ⟨E1, E2⟩ := eps_ok
  obtain ⟨fe, -, -⟩ := kEpl
  obtain ⟨p, c, e1, e2, fc, c1, c2⟩ := cube_ok F fF (by grind) (by grind)
  have hg : gtB c 4576259018578689238 = decide (epsV < val c) := gtB_ok fc fe
  by_cases h : epsV < val c
  · rw [decide_eq_true h] at hg
    have h0 : 0 ≤ val F := by
      rcases (by grind : 0 ≤ val F ∨ val F ≤ 0) with h3 | h3
      · exact h3
      · have := c2 h3; exfalso; grind
    obtain ⟨k1, k2⟩ := c1 h0
    have n : (6 / 29 - 1 / 1000000000000 : Rat) * (6 / 29 - 1 / 1000000000000) * (6 / 29 - 1 / 1000000000000) ≤ 216 / 24389 - 1 / 10000000000000 := by decide +kernel
    have hF : 6 / 29 - 1 / 1000000000000 ≤ val F := cube_le_inv h0 (by clear hg c1 c2; generalize val F * val F * val F = FFF at *; grind)
    exact ⟨p, c, c, e1, e2, .inl ⟨hg, rfl⟩, fc, .inl ⟨by grind, k1, k2⟩⟩
  · rw [decide_eq_false h] at hg
    obtain ⟨q, v, x, x1, x2, x3, fx, r1, r2⟩ := lin_x F fF S (by grind) hS0 h1 h2
    have hF : val F ≤ 6 / 29 + 1 / 1000000000000 := by
      rcases (by grind : 0 ≤ val F ∨ val F ≤ 0) with h0 | h0
      · obtain ⟨k1, k2⟩ := c1 h0
        have n := num4
        exact cube_le_inv (by decide +kernel) (by clear hg c1 c2; generalize val F * val F * val F = FFF at *; grind)
      · grind
    exact ⟨p, c, x, e1, e2, .inr ⟨hg, q, v, x1, x2, x3⟩, fx, .inr ⟨by grind, by grind, by grind⟩⟩
/-- the middle channel's way back -/
theorem toy_any (l F : Nat) (fl : Finite l) (fF : Finite F) (G D R : Rat) (hG : G ≤ 50000000000) (hG0 : 1 ≤ G) (h1 : -(116 * G - 16) ≤ val l) (h2 : val l ≤ 116 * G - 16) (f1 : -(4 * G / 9007199254740992) ≤ val F - (val l + 16) / 116) (f2 : val F - (val l + 16) / 116 ≤ 4 * G / 9007199254740992) (hD : G / 1000000000000000 ≤ D) (hD2 : D ≤ 1 / 100) (hR : G / 1000000000000000 ≤ R) :
    ∃ y, Yway l F y ∧ Finite y ∧ ToX (val F) (val y) D R := by
  obtain ⟨b22, b23⟩ := huge
  have hu : u = 1 / 9007199254740992 := rfl
  have he := eta_nano
  have he0 := eta_pos
  obtain ⟨f8, v8⟩ := k8
  obtain ⟨fk, k1, k2⟩ := kKap
  have hg : gtB l 4620693217682128896 = decide (8 < val l) := by rw [gtB_ok fl f8, v8]
  by_cases h : 8 < val l
  · rw [decide_eq_true h] at hg
    obtain ⟨p, c, e1, e2, fc, c1, -⟩ := cube_ok F fF (by grind) (by grind)
    obtain ⟨q1, q2⟩ := c1 (by grind)
    exact ⟨c, .inl ⟨hg, p, e1, e2⟩, fc, .inl ⟨by grind, q1, q2⟩⟩
  · rw [decide_eq_false h] at hg
    obtain ⟨K, hK⟩ : ∃ K, K = val 4651156694067819558 := ⟨_, rfl⟩
    rw [← hK] at k1 k2
    obtain ⟨w, hw⟩ : ∃ w, w * K = val l := ⟨val l / K, Rat.div_mul_cancel (by grind)⟩
    have w1 : w ≤ 1 / 7 * G := mul_le_cancel (show 0 < K by grind) (by rw [hw]; have := Rat.mul_le_mul_of_nonneg_left (show 900 ≤ K by grind) (show 0 ≤ 1 / 7 * G by grind); grind)
    have w2 : -(1 / 7 * G) ≤ w := mul_le_cancel (show 0 < K by grind) (by rw [hw]; have := Rat.mul_le_mul_of_nonneg_left (show 900 ≤ K by grind) (show 0 ≤ 1 / 7 * G by grind); grind)
    have hd := abs_mul w2 w1 k1 k2
    have ew : w * (K - 24389 / 27) = val l - w * (24389 / 27) := by rw [← hw]; grind
    rw [ew] at hd
    obtain ⟨y, e3, fy, ry⟩ := div_ok l 4651156694067819558 fl fk (by rw [← hK]; grind) w (by rw [← hK]; exact hw) (by grind) (by grind)
    have s3 := ry (1 / 7 * G) (by grind) (by grind)
    clear ry
    rw [hu] at s3
    exact ⟨y, .inr ⟨hg, e3⟩, fy, .inr ⟨by grind, by grind, by grind⟩⟩
/-- the three angles out of Lab -/
theorem ang_of (l a b : Nat) (fl : Finite l) (fa : Finite a) (fb : Finite b) (G P Q : Rat) (g0 : 1 ≤ G) (p0 : 1 ≤ P) (q0 : 1 ≤ Q) (g1 : G ≤ 1000000000000) (p1 : P ≤ 1000000000000) (q1 : Q ≤ 1000000000000) (h1 : -(116 * G - 16) ≤ val l) (h2 : val l ≤ 116 * G - 16) (a1 : -(500 * P) ≤ val a) (a2 : val a ≤ 500 * P) (b1 : -(200 * Q) ≤ val b) (b2 : val b ≤ 200 * Q) :
    ∃ s1 f1 da f0 db f2, Ieee.double.add l 4625196817309499392 = some s1 ∧ Ieee.double.div s1 4637863191261478912 = some f1 ∧ Ieee.double.div a 4647503709213818880 = some da ∧ Ieee.double.add da f1 = some f0 ∧ Ieee.double.div b 4641240890982006784 = some db ∧ Ieee.double.sub f1 db = some f2 ∧ Finite f1 ∧ Finite f0 ∧ Finite f2 ∧
      (-(4 * G / 9007199254740992) ≤ val f1 - (val l + 16) / 116 ∧ val f1 - (val l + 16) / 116 ≤ 4 * G / 9007199254740992) ∧ (-(6 * (G + P) / 9007199254740992) ≤ val f0 - (val a / 500 + (val l + 16) / 116) ∧ val f0 - (val a / 500 + (val l + 16) / 116) ≤ 6 * (G + P) / 9007199254740992) ∧ (-(6 * (G + Q) / 9007199254740992) ≤ val f2 - ((val l + 16) / 116 - val b / 200) ∧ val f2 - ((val l + 16) / 116 - val b / 200) ≤ 6 * (G + Q) / 9007199254740992) := by
  obtain ⟨b22, b23⟩ := huge
  have hu : u = 1 / 9007199254740992 := rfl
  have he := eta_nano
  have he0 := eta_pos
  obtain ⟨x6, v6⟩ := k16
  obtain ⟨x1, v1⟩ := k116
  obtain ⟨x5, v5⟩ := k500
  obtain ⟨x2, v2⟩ := k200
  obtain ⟨s1, e1, fs, r1⟩ := add_ok l 4625196817309499392 fl x6 (by rw [v6]; grind) (by rw [v6]; grind)
  rw [v6] at r1
  have t1 := r1 (116 * G) (by grind) (by grind)
  clear r1
  rw [hu] at t1
  obtain ⟨f1, e2, ff1, r2⟩ := div_ok s1 4637863191261478912 fs x1 (by rw [v1]; grind) (val s1 / 116) (by rw [v1]; grind) (by grind) (by grind)
  have t2 := r2 (G + G / 1000) (by grind) (by grind)
  clear r2
  rw [hu] at t2
  obtain ⟨da, e3, fda, r3⟩ := div_ok a 4647503709213818880 fa x5 (by rw [v5]; grind) (val a / 500) (by rw [v5]; grind) (by grind) (by grind)
  have t3 := r3 P (by grind) (by grind)
  clear r3
  rw [hu] at t3
  obtain ⟨f0, e4, ff0, r4⟩ := add_ok da f1 fda ff1 (by grind) (by grind)
  have t4 := r4 (G + P + (G + P) / 1000) (by grind) (by grind)
  clear r4
  rw [hu] at t4
  obtain ⟨db, e5, fdb, r5⟩ := div_ok b 4641240890982006784 fb x2 (by rw [v2]; grind) (val b / 200) (by rw [v2]; grind) (by grind) (by grind)
  have t5 := r5 Q (by grind) (by grind)
  clear r5
  rw [hu] at t5
  obtain ⟨f2, e6, ff2, r6⟩ := sub_ok f1 db ff1 fdb (by grind) (by grind)
  have t6 := r6 (G + Q + (G + Q) / 1000) (by grind) (by grind)
  clear r6
  rw [hu] at t6
  clear b22 b23
  exact ⟨s1, f1, da, f0, db, f2, e1, e2, e3, e4, e5, e6, ff1, ff0, ff2, ⟨by grind, by grind⟩, ⟨by grind, by grind⟩, ⟨by grind, by grind⟩⟩
end Go.Proofs.Ytafeeebgleecfaa.Mat
