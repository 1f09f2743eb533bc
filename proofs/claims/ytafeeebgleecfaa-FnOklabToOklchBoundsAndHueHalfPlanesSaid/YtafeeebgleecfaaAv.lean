/-
  F64's Atan2, Sqrt and Squared, and oklab_to_oklch, by their contracts.
-/
import Derived.Test.YtafeeebgleecfaaLch
import Derived.Test.YtafeeebgleecfaaAu
namespace Go.Proofs.Ytafeeebgleecfaa.Mat
open Go.ChangeShapes Go.WideShapes Go.ChangeAt Go.RowKit
open FL Pl
set_option linter.unusedVariables false
attribute [local go_sem] run_store_float build_f64
theorem sqrt_eq (x : Nat) : Extern.MathSqrt.sqrt #[.float .f64 x] = (match Ieee.double.sqrt x with | some r => (pure (Value.float .f64 r) : Sem Value) | none => (choose (.nanBits .f64 x x)) >>= fun b => pure (Value.float .f64 b)) := by
  first | rfl | (unfold Extern.MathSqrt.sqrt; rfl)
theorem sqrt_call_some (x r : Nat) (h : Ieee.double.sqrt x = some r) (w : World) : (callFunc 106 #[.float .f64 x]).run Try.prog w = .ok (.value (.float .f64 r)) w := by
  rw [run_callFunc_extern (e := Extern.MathSqrt.sqrt) Try.func106 (by kernel_rfl) (by kernel_rfl) (by kernel_rfl) (by kernel_rfl), sqrt_eq, h]
  rfl
theorem mSqrt_any (x r : Nat) (h : Ieee.double.sqrt x = some r) (w : World) : Calls Try.prog 98 #[.float .f64 x] w fun e w' => e = .returned (.float .f64 r) ∧ Below w.heap.size w w' := by
  have hm := sqrt_call_some x r h
  clear h
  go_enter Try.func98, Try.ntmps98
  go_wp2
  go_ret
  exact ⟨rfl, Below.refl _ _⟩
set_option maxRecDepth 100000 in
set_option maxHeartbeats 800000 in
theorem FAtan2_any (x0 x1 r : Nat) (hc : ∀ w, Calls Try.prog 97 #[.float .f64 x0, .float .f64 x1] w fun e w' => e = .returned (.float .f64 r) ∧ Below w.heap.size w w') (w : World) :
    Calls Try.prog 86 #[.agg #[.float .f64 x0], .agg #[.float .f64 x1]] w fun e w' => e = .returned (.agg #[.float .f64 r]) ∧ Below w.heap.size w w' := by
  have HC := Lib.hid hc
  clear hc
  go_enter Try.func86, Try.ntmps86
  go_wp2_with fail
  refine (HC.out _).mono ?_
  rintro e w0 ⟨rfl, hb⟩
  have hb0 := ((((Below.refl w.heap.size w).alloc (by simp; try omega) _).alloc (by simp; try omega) _).alloc (by simp; try omega) _).trans (hb.mono (by simp; try omega))
  have c0 := hb.cell (p := ⟨w.heap.size + 1 + 1, 0, none⟩) (by simp; try omega)
  have f0 := hb.frozen (p := ⟨w.heap.size + 1 + 1, 0, none⟩) (by simp; try omega)
  have hz := hb.size
  simp at c0 f0 hz
  have HB := Lib.hid hb0
  clear hb hb0
  go_wp2_with fail
  refine (NewF64_any _ _).mono ?_
  rintro e w1 ⟨rfl, hb⟩
  have c1 := (hb.cell (p := ⟨w.heap.size + 1 + 1, 0, none⟩) (by show w.heap.size + 1 + 1 < _; omega)).trans c0
  have f1 := (hb.frozen (p := ⟨w.heap.size + 1 + 1, 0, none⟩) (by show w.heap.size + 1 + 1 < _; omega)).trans f0
  have hz1 := hb.size
  have hb0 := HB.out.trans (hb.mono (by omega))
  clear c0 f0 hb HB
  go_wp2
  refine bodyPost_ret (v := .agg #[.float .f64 r]) (by simp [results, Try.results86, go_sem, c1]) rfl ⟨rfl, ?_⟩
  exact hb0.setCell (by simp; try omega) _
set_option maxRecDepth 100000 in
set_option maxHeartbeats 800000 in
theorem FSqrt_any (x0 r : Nat) (h : Ieee.double.sqrt x0 = some r) (w : World) :
    Calls Try.prog 88 #[.agg #[.float .f64 x0]] w fun e w' => e = .returned (.agg #[.float .f64 r]) ∧ Below w.heap.size w w' := by
  have HC := Lib.hid h
  clear h
  go_enter Try.func88, Try.ntmps88
  go_wp2_with fail
  refine (mSqrt_any _ _ HC.out _).mono ?_
  rintro e w0 ⟨rfl, hb⟩
  have hb0 := (((Below.refl w.heap.size w).alloc (by simp; try omega) _).alloc (by simp; try omega) _).trans (hb.mono (by simp; try omega))
  have c0 := hb.cell (p := ⟨w.heap.size + 1, 0, none⟩) (by simp; try omega)
  have f0 := hb.frozen (p := ⟨w.heap.size + 1, 0, none⟩) (by simp; try omega)
  have hz := hb.size
  simp at c0 f0 hz
  have HB := Lib.hid hb0
  clear hb hb0
  go_wp2_with fail
  refine (NewF64_any _ _).mono ?_
  rintro e w1 ⟨rfl, hb⟩
  have c1 := (hb.cell (p := ⟨w.heap.size + 1, 0, none⟩) (by show w.heap.size + 1 < _; omega)).trans c0
  have f1 := (hb.frozen (p := ⟨w.heap.size + 1, 0, none⟩) (by show w.heap.size + 1 < _; omega)).trans f0
  have hz1 := hb.size
  have hb0 := HB.out.trans (hb.mono (by omega))
  clear c0 f0 hb HB
  go_wp2
  refine bodyPost_ret (v := .agg #[.float .f64 r]) (by simp [results, Try.results88, go_sem, c1]) rfl ⟨rfl, ?_⟩
  exact hb0.setCell (by simp; try omega) _
set_option maxRecDepth 100000 in
set_option maxHeartbeats 1000000 in
theorem sq_walk (x r base : Nat) (w : World) (H : Hid (base = w.heap.size)) (Hr : Hid (Ieee.double.mul x x = some r)) :
    Calls Try.prog 87 #[.agg #[.float .f64 x]] w fun e w' => e = .returned (.agg #[.float .f64 r]) ∧ Below base w w' := by
  go_enter Try.func87, Try.ntmps87
  go_upto_region 1 with fail
  generalize hW : World.alloc _ _ = W at *
  have hS : Bx base w [(w.heap.size + 1, 0), (w.heap.size, x)] W := by
    subst hW
    have := (((Bx.start w).alloc x 41).alloc 0 41)
    rw [H.out]
    simpa using this
  have hA : Apart base [(w.heap.size + 1, 0), (w.heap.size, x)] := by
    rw [H.out]
    simp [Apart]; try omega
  have HS := Lib.hid (And.intro hS hA)
  clear hS hA hW H
  generalize w.heap.size + 1 = g2 at *
  generalize hgg : w.heap.size = g1 at *
  clear hgg
  have c_g1 : W.cell? ⟨g1, 0, none⟩ = some (.float .f64 x) := (HS.out.1.cell 1 (by simp)).1
  go_wp2_with fail
  refine (Mul_any x x r Hr.out _).mono ?_
  rintro e w1 ⟨rfl, hb⟩
  have hS := HS.out.1.keep hb
  have hA := HS.out.2
  clear HS hb c_g1
  have s0 : (w1).cell? ⟨g2, 0, none⟩ = some (.float .f64 0) := (hS.cell 0 (by simp)).1
  have t0 : (w1).frozen? ⟨g2, 0, none⟩ = false := (hS.cell 0 (by simp)).2
  replace hS : Bx base w [(g2, r), (g1, x)] ((w1).setCell ⟨g2, 0, none⟩ (.float .f64 r)) := hS.set r hA 0 (by simp)
  replace hA : Apart base [(g2, r), (g1, x)] := Apart.of_fst (by rfl) hA
  have HS := Lib.hid (And.intro hS hA)
  clear hS hA
  go_wp2_with fail
  clear s0 t0
  generalize World.setCell _ _ _ = W at *
  clear w1
  have c_g2 : W.cell? ⟨g2, 0, none⟩ = some (.float .f64 r) := (HS.out.1.cell 0 (by simp)).1
  refine bodyPost_ret (v := .agg #[.float .f64 r]) (by simp [results, Try.results87, go_sem, c_g2]) rfl ⟨rfl, HS.out.1.below.2⟩
theorem FSquared_any (x r : Nat) (h : Ieee.double.mul x x = some r) (w : World) : Calls Try.prog 87 #[.agg #[.float .f64 x]] w fun e w' => e = .returned (.agg #[.float .f64 r]) ∧ Below w.heap.size w w' :=
  sq_walk x r w.heap.size w (Lib.hid rfl) (Lib.hid h)
set_option maxRecDepth 100000 in
set_option maxHeartbeats 1000000 in
theorem okl_walk (l a b L C Hh base : Nat) (w : World) (H : Hid (base = w.heap.size)) (HC : Hid (∀ w, Calls Try.prog 79 #[.agg #[.float .f64 l], .agg #[.float .f64 a], .agg #[.float .f64 b]] w fun e w' => e = .returned (.tuple #[.agg #[.float .f64 L], .agg #[.float .f64 C], .agg #[.float .f64 Hh]]) ∧ Below w.heap.size w w')) :
    Calls Try.prog 57 #[.agg #[.float .f64 l], .agg #[.float .f64 a], .agg #[.float .f64 b]] w fun e w' => e = .returned (.tuple #[.agg #[.float .f64 L], .agg #[.float .f64 C], .agg #[.float .f64 Hh]]) ∧ Below base w w' := by
  go_enter Try.func57, Try.ntmps57
  go_upto_region 1 with fail
  generalize hW : World.alloc _ _ = W at *
  have hS : Bx base w [(w.heap.size + 1 + 1 + 1 + 1 + 1, 0), (w.heap.size + 1 + 1 + 1 + 1, 0), (w.heap.size + 1 + 1 + 1, 0), (w.heap.size + 1 + 1, b), (w.heap.size + 1, a), (w.heap.size, l)] W := by
    subst hW
    have := (((((((Bx.start w).alloc l 41).alloc a 41).alloc b 41).alloc 0 41).alloc 0 41).alloc 0 41)
    rw [H.out]
    simpa using this
  have hA : Apart base [(w.heap.size + 1 + 1 + 1 + 1 + 1, 0), (w.heap.size + 1 + 1 + 1 + 1, 0), (w.heap.size + 1 + 1 + 1, 0), (w.heap.size + 1 + 1, b), (w.heap.size + 1, a), (w.heap.size, l)] := by
    rw [H.out]
    simp [Apart]; try omega
  have HS := Lib.hid (And.intro hS hA)
  clear hS hA hW H
  generalize w.heap.size + 1 + 1 + 1 + 1 + 1 = g8 at *
  generalize w.heap.size + 1 + 1 + 1 + 1 = g7 at *
  generalize w.heap.size + 1 + 1 + 1 = g6 at *
  generalize w.heap.size + 1 + 1 = g5 at *
  generalize w.heap.size + 1 = g4 at *
  generalize hgg : w.heap.size = g3 at *
  clear hgg
  have c_g3 : W.cell? ⟨g3, 0, none⟩ = some (.float .f64 l) := (HS.out.1.cell 5 (by simp)).1
  have c_g4 : W.cell? ⟨g4, 0, none⟩ = some (.float .f64 a) := (HS.out.1.cell 4 (by simp)).1
  have c_g5 : W.cell? ⟨g5, 0, none⟩ = some (.float .f64 b) := (HS.out.1.cell 3 (by simp)).1
  go_wp2_with fail
  refine (HC.out _).mono ?_
  rintro e w1 ⟨rfl, hb⟩
  have hS := HS.out.1.keep hb
  have hA := HS.out.2
  clear HS hb c_g3 c_g4 c_g5
  have s0 : (w1).cell? ⟨g6, 0, none⟩ = some (.float .f64 0) := (hS.cell 2 (by simp)).1
  have t0 : (w1).frozen? ⟨g6, 0, none⟩ = false := (hS.cell 2 (by simp)).2
  replace hS : Bx base w [(g8, 0), (g7, 0), (g6, L), (g5, b), (g4, a), (g3, l)] ((w1).setCell ⟨g6, 0, none⟩ (.float .f64 L)) := hS.set L hA 2 (by simp)
  replace hA : Apart base [(g8, 0), (g7, 0), (g6, L), (g5, b), (g4, a), (g3, l)] := Apart.of_fst (by rfl) hA
  have s1 : ((w1).setCell ⟨g6, 0, none⟩ (.float .f64 L)).cell? ⟨g7, 0, none⟩ = some (.float .f64 0) := (hS.cell 1 (by simp)).1
  have t1 : ((w1).setCell ⟨g6, 0, none⟩ (.float .f64 L)).frozen? ⟨g7, 0, none⟩ = false := (hS.cell 1 (by simp)).2
  replace hS : Bx base w [(g8, 0), (g7, C), (g6, L), (g5, b), (g4, a), (g3, l)] (((w1).setCell ⟨g6, 0, none⟩ (.float .f64 L)).setCell ⟨g7, 0, none⟩ (.float .f64 C)) := hS.set C hA 1 (by simp)
  replace hA : Apart base [(g8, 0), (g7, C), (g6, L), (g5, b), (g4, a), (g3, l)] := Apart.of_fst (by rfl) hA
  have s2 : (((w1).setCell ⟨g6, 0, none⟩ (.float .f64 L)).setCell ⟨g7, 0, none⟩ (.float .f64 C)).cell? ⟨g8, 0, none⟩ = some (.float .f64 0) := (hS.cell 0 (by simp)).1
  have t2 : (((w1).setCell ⟨g6, 0, none⟩ (.float .f64 L)).setCell ⟨g7, 0, none⟩ (.float .f64 C)).frozen? ⟨g8, 0, none⟩ = false := (hS.cell 0 (by simp)).2
  replace hS : Bx base w [(g8, Hh), (g7, C), (g6, L), (g5, b), (g4, a), (g3, l)] ((((w1).setCell ⟨g6, 0, none⟩ (.float .f64 L)).setCell ⟨g7, 0, none⟩ (.float .f64 C)).setCell ⟨g8, 0, none⟩ (.float .f64 Hh)) := hS.set Hh hA 0 (by simp)
  replace hA : Apart base [(g8, Hh), (g7, C), (g6, L), (g5, b), (g4, a), (g3, l)] := Apart.of_fst (by rfl) hA
  have HS := Lib.hid (And.intro hS hA)
  clear hS hA
  go_wp2_with fail
  clear s0 t0 s1 t1 s2 t2
  generalize World.setCell _ _ _ = W at *
  clear w1
  have c_g6 : W.cell? ⟨g6, 0, none⟩ = some (.float .f64 L) := (HS.out.1.cell 2 (by simp)).1
  have c_g7 : W.cell? ⟨g7, 0, none⟩ = some (.float .f64 C) := (HS.out.1.cell 1 (by simp)).1
  have c_g8 : W.cell? ⟨g8, 0, none⟩ = some (.float .f64 Hh) := (HS.out.1.cell 0 (by simp)).1
  refine bodyPost_ret (v := .tuple #[.agg #[.float .f64 L], .agg #[.float .f64 C], .agg #[.float .f64 Hh]]) (by simp [results, Try.results57, go_sem, c_g6, c_g7, c_g8]) rfl ⟨rfl, HS.out.1.below.2⟩
def VS (g1 g2 g3 : Nat) (x y z : Nat) (w0 : World) (w' : World) : Prop :=
  w'.cell? ⟨g1, 0, none⟩ = some (.float .f64 x) ∧ w'.cell? ⟨g2, 0, none⟩ = some (.float .f64 y) ∧ w'.cell? ⟨g3, 0, none⟩ = some (.float .f64 z) ∧ w0.heap.size ≤ w'.heap.size ∧ Below w0.heap.size w0 w'
theorem VS.keep {g1 g2 g3 x y z : Nat} {w0 w1 w2 : World} (hb : Below w1.heap.size w1 w2) (h : VS g1 g2 g3 x y z w0 w1) : VS g1 g2 g3 x y z w0 w2 := by
  obtain ⟨d1, d2, d3, hz, hB⟩ := h
  exact ⟨later hb d1, later hb d2, later hb d3, Nat.le_trans hz hb.size, hB.trans (hb.mono hz)⟩
theorem VS.drew {g1 g2 g3 x y z : Nat} {w0 w1 : World} (h : VS g1 g2 g3 x y z w0 w1) : VS g1 g2 g3 x y z w0 w1.drew := by
  obtain ⟨d1, d2, d3, hz, hB⟩ := h
  exact ⟨d1, d2, d3, hz, hB.drew⟩

set_option maxRecDepth 100000 in
set_option maxHeartbeats 2000000 in
theorem ZZoklabToOklch_n011_191_any (x y z r0 r1 r2 : Nat) (hc : ∀ w, Calls Try.prog 57 #[.agg #[.float .f64 x], .agg #[.float .f64 y], .agg #[.float .f64 z]] w fun e w' => e = .returned (.tuple #[.agg #[.float .f64 r0], .agg #[.float .f64 r1], .agg #[.float .f64 r2]]) ∧ Below w.heap.size w w') (w : World) :
    Calls Try.prog 38 #[.float .f64 x, .float .f64 y, .float .f64 z] w fun e w' => e = .returned (.tuple #[.float .f64 r0, .float .f64 r1, .float .f64 r2]) ∧ Below w.heap.size w w' := by
  have HC := Lib.hid hc
  clear hc
  go_enter Try.func38, Try.ntmps38
  go_wp2_with fail
  refine (NewF64_any x _).mono ?_
  rintro e w1 ⟨rfl, b1⟩
  go_wp2_with fail
  refine (NewF64_any y _).mono ?_
  rintro e w2 ⟨rfl, b2⟩
  go_wp2_with fail
  refine (NewF64_any z _).mono ?_
  rintro e w3 ⟨rfl, b3⟩
  go_wp2_with fail
  refine (HC.out _).mono ?_
  rintro e w4 ⟨rfl, b4⟩
  have B4 : Below w.heap.size w w4 := b1.trans ((b2.mono b1.size).trans ((b3.mono (Nat.le_trans b1.size b2.size)).trans (b4.mono (Nat.le_trans b1.size (Nat.le_trans b2.size b3.size)))))
  clear b1 b2 b3 b4
  go_wp2
  generalize hW : World.alloc _ _ = W
  have hS : VS w4.heap.size (w4.heap.size + 1) (w4.heap.size + 1 + 1) r0 r1 r2 w W := by
    subst hW
    refine ⟨by simp [go_sem], by simp [go_sem], by simp [go_sem], by simp; have := B4.size; omega, ?_⟩
    exact ((B4.alloc B4.size _).alloc (by simp; have := B4.size; omega) _).alloc (by simp; have := B4.size; omega) _
  obtain ⟨g1, hg1⟩ : ∃ g, g = w4.heap.size := ⟨_, rfl⟩
  obtain ⟨g2, hg2⟩ : ∃ g, g = w4.heap.size + 1 := ⟨_, rfl⟩
  obtain ⟨g3, hg3⟩ : ∃ g, g = w4.heap.size + 1 + 1 := ⟨_, rfl⟩
  rw [← hg3, ← hg2, ← hg1] at hS ⊢
  have HS := Lib.hid hS
  clear hS hW hg1 hg2 hg3 B4
  go_region_held3 (fun w' => w'.cell? ⟨g1, 0, none⟩ = some (.float .f64 r0) ∧ w'.cell? ⟨g2, 0, none⟩ = some (.float .f64 r1) ∧ w'.cell? ⟨g3, 0, none⟩ = some (.float .f64 r2) ∧ w.heap.size ≤ w'.heap.size ∧ Below w.heap.size w w')
    (first | exact HS.out.drew | (refine VS.keep ‹Below _ _ _› ?_; assumption))
    (first | (go_at_call 43; refine (Value_any _ _).mono ?_; rintro e w' ⟨rfl, hb⟩))
  rename_i hH
  have hB := hH.2.2.2.2
  clear hH
  go_wp2
  go_ret3
  exact ⟨rfl, hB⟩


end Go.Proofs.Ytafeeebgleecfaa.Mat
