import Derived.Test.YthjgigahhooilaaRows
import Derived.WalkKit
import Derived.ProofKit
import Derived.OpenShut
import Derived.Below
import Derived.Lib.Hide
import Derived.Outline
import Derived.Laws.Cover2
import Derived.Laws.FloatArith
import Derived.WalkLawsBesides
import Derived.Deep.RegionHeld3
namespace Go.Proofs.Ythjgigahhooilaa.Mat
open Go.ChangeShapes Go.WideShapes Go.ChangeAt Go.RowKit
theorem run_store_float (P : Program) (w : World) (a : Addr) (m : Mode) (k : FloatKind) (b : Nat) : (store a (.float k b) m).run P w = stored P w a (.float k b) m := run_store P w a _ m rfl
attribute [local go_sem] run_store_float
theorem build_f64 (a : Nat) (w : World) : (Instr.build 33 #[(0, .float .f64 a)]).run Try.prog w = .ok (.agg #[.float .f64 a]) w := run_build w 33 _ _ (by kernel_rfl)
attribute [local go_sem] build_f64
abbrev fv (x : Nat) : Value := .agg #[.float .f64 x]

set_option maxRecDepth 100000 in
theorem NewF64_any (x : Nat) (w : World) :
    Calls Try.prog 33 #[.float .f64 x] w fun e w' => e = .returned (.agg #[.float .f64 x]) ∧ Below w.heap.size w w' := by
  go_enter Try.func33, Try.ntmps33
  go_wp2
  refine bodyPost_ret (v := .agg #[.float .f64 x]) (by simp [results, Try.results33, go_sem]) rfl ⟨rfl, ?_⟩
  exact ((Below.refl _ _).alloc (Nat.le_refl _) _)

set_option maxRecDepth 100000 in
theorem Value_any (x : Nat) (w : World) :
    Calls Try.prog 34 #[.agg #[.float .f64 x]] w fun e w' => e = .returned (.float .f64 x) ∧ Below w.heap.size w w' := by
  go_enter Try.func34, Try.ntmps34
  go_wp2
  go_ret
  exact ⟨rfl, ((Below.refl _ _).alloc (Nat.le_refl _) _)⟩

set_option maxRecDepth 100000 in
set_option maxHeartbeats 400000 in
theorem Add_any (x y r : Nat) (h : Ieee.double.add x y = some r) (w : World) :
    Calls Try.prog 47 #[.agg #[.float .f64 x], .agg #[.float .f64 y]] w fun e w' => e = .returned (.agg #[.float .f64 r]) ∧ Below w.heap.size w w' := by
  have hm : ∀ w, (binOp .add 22 (.float .f64 x) (.float .f64 y)).run Try.prog w = .ok (.float .f64 r) w := fun w => run_float_arith w .add 22 .f64 x y r h
  clear h
  go_enter Try.func47, Try.ntmps47
  go_wp2_with fail
  refine (NewF64_any r _).mono ?_
  rintro e w1 ⟨rfl, hb⟩
  have c0 := hb.cell (p := ⟨w.heap.size + 1 + 1, 0, none⟩) (by simp)
  have f0 := hb.frozen (p := ⟨w.heap.size + 1 + 1, 0, none⟩) (by simp)
  have hz := hb.size
  simp at c0 f0 hz
  go_wp2
  refine bodyPost_ret (v := .agg #[.float .f64 r]) (by simp [results, Try.results47, go_sem, c0]) rfl ⟨rfl, ?_⟩
  exact (((((Below.refl _ _).alloc (Nat.le_refl _) _).alloc (by simp) _).alloc (by simp; omega) _).trans (hb.mono (by simp; omega))).setCell (by simp; try omega) _

set_option maxRecDepth 100000 in
set_option maxHeartbeats 400000 in
theorem Sub_any (x y r : Nat) (h : Ieee.double.sub x y = some r) (w : World) :
    Calls Try.prog 45 #[.agg #[.float .f64 x], .agg #[.float .f64 y]] w fun e w' => e = .returned (.agg #[.float .f64 r]) ∧ Below w.heap.size w w' := by
  have hm : ∀ w, (binOp .sub 22 (.float .f64 x) (.float .f64 y)).run Try.prog w = .ok (.float .f64 r) w := fun w => run_float_arith w .sub 22 .f64 x y r h
  clear h
  go_enter Try.func45, Try.ntmps45
  go_wp2_with fail
  refine (NewF64_any r _).mono ?_
  rintro e w1 ⟨rfl, hb⟩
  have c0 := hb.cell (p := ⟨w.heap.size + 1 + 1, 0, none⟩) (by simp)
  have f0 := hb.frozen (p := ⟨w.heap.size + 1 + 1, 0, none⟩) (by simp)
  have hz := hb.size
  simp at c0 f0 hz
  go_wp2
  refine bodyPost_ret (v := .agg #[.float .f64 r]) (by simp [results, Try.results45, go_sem, c0]) rfl ⟨rfl, ?_⟩
  exact (((((Below.refl _ _).alloc (Nat.le_refl _) _).alloc (by simp) _).alloc (by simp; omega) _).trans (hb.mono (by simp; omega))).setCell (by simp; try omega) _

set_option maxRecDepth 100000 in
set_option maxHeartbeats 400000 in
theorem Mul_any (x y r : Nat) (h : Ieee.double.mul x y = some r) (w : World) :
    Calls Try.prog 50 #[.agg #[.float .f64 x], .agg #[.float .f64 y]] w fun e w' => e = .returned (.agg #[.float .f64 r]) ∧ Below w.heap.size w w' := by
  have hm : ∀ w, (binOp .mul 22 (.float .f64 x) (.float .f64 y)).run Try.prog w = .ok (.float .f64 r) w := fun w => run_float_arith w .mul 22 .f64 x y r h
  clear h
  go_enter Try.func50, Try.ntmps50
  go_wp2_with fail
  refine (NewF64_any r _).mono ?_
  rintro e w1 ⟨rfl, hb⟩
  have c0 := hb.cell (p := ⟨w.heap.size + 1 + 1, 0, none⟩) (by simp)
  have f0 := hb.frozen (p := ⟨w.heap.size + 1 + 1, 0, none⟩) (by simp)
  have hz := hb.size
  simp at c0 f0 hz
  go_wp2
  refine bodyPost_ret (v := .agg #[.float .f64 r]) (by simp [results, Try.results50, go_sem, c0]) rfl ⟨rfl, ?_⟩
  exact (((((Below.refl _ _).alloc (Nat.le_refl _) _).alloc (by simp) _).alloc (by simp; omega) _).trans (hb.mono (by simp; omega))).setCell (by simp; try omega) _

set_option maxRecDepth 100000 in
set_option maxHeartbeats 400000 in
theorem MulConst_any (x y r : Nat) (h : Ieee.double.mul x y = some r) (w : World) :
    Calls Try.prog 49 #[.agg #[.float .f64 x], .float .f64 y] w fun e w' => e = .returned (.agg #[.float .f64 r]) ∧ Below w.heap.size w w' := by
  have hm : ∀ w, (binOp .mul 22 (.float .f64 x) (.float .f64 y)).run Try.prog w = .ok (.float .f64 r) w := fun w => run_float_arith w .mul 22 .f64 x y r h
  clear h
  go_enter Try.func49, Try.ntmps49
  go_wp2_with fail
  refine (NewF64_any r _).mono ?_
  rintro e w1 ⟨rfl, hb⟩
  have c0 := hb.cell (p := ⟨w.heap.size + 1, 0, none⟩) (by simp)
  have f0 := hb.frozen (p := ⟨w.heap.size + 1, 0, none⟩) (by simp)
  have hz := hb.size
  simp at c0 f0 hz
  go_wp2
  refine bodyPost_ret (v := .agg #[.float .f64 r]) (by simp [results, Try.results49, go_sem, c0]) rfl ⟨rfl, ?_⟩
  exact ((((Below.refl _ _).alloc (Nat.le_refl _) _).alloc (by simp) _).trans (hb.mono (by simp; omega))).setCell (by simp; try omega) _

/-- one row of the product of a matrix and a vector, as the program computes it -/
def row3 (a b c x y z : Nat) : Option Nat := (Ieee.double.mul x a).bind fun p => (Ieee.double.mul y b).bind fun q => (Ieee.double.add p q).bind fun s => (Ieee.double.mul z c).bind fun t => Ieee.double.add s t
theorem row3_parts {a b c x y z r : Nat} (h : row3 a b c x y z = some r) : ∃ p q s t, Ieee.double.mul x a = some p ∧ Ieee.double.mul y b = some q ∧ Ieee.double.add p q = some s ∧ Ieee.double.mul z c = some t ∧ Ieee.double.add s t = some r := by
  unfold row3 at h
  simp only [Option.bind_eq_some_iff] at h
  obtain ⟨p, h1, q, h2, s, h3, t, h4, h5⟩ := h
  exact ⟨p, q, s, t, h1, h2, h3, h4, h5⟩

theorem run_store_float_ok (P : Program) (w : World) (a : Addr) (m : Mode) (k : FloatKind) (b : Nat) (h : (w.cell? a).isSome = true) (hf : w.frozen? a = false) : (store a (.float k b) m).run P w = .ok () (w.setCell a (.float k b)) := by
  rw [run_store_float]
  obtain ⟨v, hv⟩ := Option.isSome_iff_exists.1 h
  simp [stored, hv, hf]

/-- what the region of multiplyMatrices reads and writes: the matrix in block g, the vector in g1, g2, g3, the results' boxes g4, g5, g6 -/
def MS (g g1 g2 g3 g4 g5 g6 : Nat) (a0 a1 a2 a3 a4 a5 a6 a7 a8 x y z : Nat) (w0 : World) (w' : World) : Prop :=
  w'.cell? ⟨g, 0, none⟩ = some (.float .f64 a0) ∧ w'.cell? ⟨g, 1, none⟩ = some (.float .f64 a1) ∧ w'.cell? ⟨g, 2, none⟩ = some (.float .f64 a2) ∧
  w'.cell? ⟨g, 3, none⟩ = some (.float .f64 a3) ∧ w'.cell? ⟨g, 4, none⟩ = some (.float .f64 a4) ∧ w'.cell? ⟨g, 5, none⟩ = some (.float .f64 a5) ∧
  w'.cell? ⟨g, 6, none⟩ = some (.float .f64 a6) ∧ w'.cell? ⟨g, 7, none⟩ = some (.float .f64 a7) ∧ w'.cell? ⟨g, 8, none⟩ = some (.float .f64 a8) ∧
  w'.cell? ⟨g1, 0, none⟩ = some (.float .f64 x) ∧ w'.cell? ⟨g2, 0, none⟩ = some (.float .f64 y) ∧ w'.cell? ⟨g3, 0, none⟩ = some (.float .f64 z) ∧
  (w'.cell? ⟨g4, 0, none⟩).isSome = true ∧ (w'.cell? ⟨g5, 0, none⟩).isSome = true ∧ (w'.cell? ⟨g6, 0, none⟩).isSome = true ∧
  w'.frozen? ⟨g4, 0, none⟩ = false ∧ w'.frozen? ⟨g5, 0, none⟩ = false ∧ w'.frozen? ⟨g6, 0, none⟩ = false ∧ w0.heap.size ≤ w'.heap.size ∧ Below g w0 w'
theorem later {w1 w2 : World} (hb : Below w1.heap.size w1 w2) {p : Addr} {v : Value} (h : w1.cell? p = some v) : w2.cell? p = some v := (hb.cell (World.block_lt_of_cell? w1 p h)).trans h
theorem later_some {w1 w2 : World} (hb : Below w1.heap.size w1 w2) {p : Addr} (h : (w1.cell? p).isSome = true) : (w2.cell? p).isSome = true := by
  obtain ⟨v, hv⟩ := Option.isSome_iff_exists.1 h
  rw [later hb hv]; rfl
theorem later_frozen {w1 w2 : World} (hb : Below w1.heap.size w1 w2) {p : Addr} (h : (w1.cell? p).isSome = true) (hf : w1.frozen? p = false) : w2.frozen? p = false := by
  obtain ⟨v, hv⟩ := Option.isSome_iff_exists.1 h
  rw [hb.frozen (World.block_lt_of_cell? w1 p hv)]; exact hf
theorem set_some {w : World} {p q : Addr} {x : Value} (h : (w.cell? q).isSome = true) : ((w.setCell p x).cell? q).isSome = true := by
  obtain ⟨v, hv⟩ := Option.isSome_iff_exists.1 h
  obtain ⟨v', hv'⟩ := cell?_setCell_some (p := p) (x := x) hv
  rw [hv']; rfl
theorem set_far {w : World} {g k n o : Nat} {v x : Value} (hne : k ≠ g) (h : w.cell? ⟨g, n, none⟩ = some v) : (w.setCell ⟨k, o, none⟩ x).cell? ⟨g, n, none⟩ = some v := by
  rw [World.cell?_setCell_other]
  · exact h
  · intro e; injection e with e1; exact hne e1
theorem isSome_set (w : World) (b o b' o' : Nat) (x : Value) (h : ((w.setCell ⟨b, o, none⟩ x).cell? ⟨b', o', none⟩).isSome = true) : (w.cell? ⟨b', o', none⟩).isSome = true := by
  by_cases hpq : (⟨b, o, none⟩ : Addr) = ⟨b', o', none⟩
  · injection hpq with e1 e2
    subst e1 e2
    cases hc : w.cell? ⟨b, o, none⟩ with
    | some v => rfl
    | none =>
      exfalso
      revert h hc
      unfold World.cell? World.setCell
      simp only [Array.getElem?_modify, if_true]
      cases hh : w.heap[b]? with
      | none => simp
      | some ob => cases ob <;> simp
  · rw [World.cell?_setCell_other _ _ _ _ hpq] at h
    exact h
theorem set_val (w : World) (b o : Nat) (x : Value) (h : ((w.setCell ⟨b, o, none⟩ x).cell? ⟨b, o, none⟩).isSome = true) : (w.setCell ⟨b, o, none⟩ x).cell? ⟨b, o, none⟩ = some x := World.cell?_setCell_same' w _ x (isSome_set w b o b o x h)
theorem three_set {w : World} {g4 g5 g6 : Nat} {v4 v5 v6 : Value} (n : g4 ≠ g5 ∧ g4 ≠ g6 ∧ g5 ≠ g6)
    (e1 : ((((w.setCell ⟨g4, 0, none⟩ v4).setCell ⟨g5, 0, none⟩ v5).setCell ⟨g6, 0, none⟩ v6).cell? ⟨g4, 0, none⟩).isSome = true)
    (e2 : ((((w.setCell ⟨g4, 0, none⟩ v4).setCell ⟨g5, 0, none⟩ v5).setCell ⟨g6, 0, none⟩ v6).cell? ⟨g5, 0, none⟩).isSome = true)
    (e3 : ((((w.setCell ⟨g4, 0, none⟩ v4).setCell ⟨g5, 0, none⟩ v5).setCell ⟨g6, 0, none⟩ v6).cell? ⟨g6, 0, none⟩).isSome = true) :
    (((w.setCell ⟨g4, 0, none⟩ v4).setCell ⟨g5, 0, none⟩ v5).setCell ⟨g6, 0, none⟩ v6).cell? ⟨g4, 0, none⟩ = some v4 ∧
    (((w.setCell ⟨g4, 0, none⟩ v4).setCell ⟨g5, 0, none⟩ v5).setCell ⟨g6, 0, none⟩ v6).cell? ⟨g5, 0, none⟩ = some v5 ∧
    (((w.setCell ⟨g4, 0, none⟩ v4).setCell ⟨g5, 0, none⟩ v5).setCell ⟨g6, 0, none⟩ v6).cell? ⟨g6, 0, none⟩ = some v6 := by
  obtain ⟨n45, n46, n56⟩ := n
  exact ⟨set_far n46.symm (set_far n45.symm (set_val _ _ _ _ (isSome_set _ _ _ _ _ _ (isSome_set _ _ _ _ _ _ e1)))), set_far n56.symm (set_val _ _ _ _ (isSome_set _ _ _ _ _ _ e2)), set_val _ _ _ _ e3⟩
section
variable {g g1 g2 g3 g4 g5 g6 : Nat} {a0 a1 a2 a3 a4 a5 a6 a7 a8 x y z : Nat} {w0 w1 w2 : World}
theorem MS.keep (hb : Below w1.heap.size w1 w2) (h : MS g g1 g2 g3 g4 g5 g6 a0 a1 a2 a3 a4 a5 a6 a7 a8 x y z w0 w1) : MS g g1 g2 g3 g4 g5 g6 a0 a1 a2 a3 a4 a5 a6 a7 a8 x y z w0 w2 := by
  obtain ⟨c0, c1, c2, c3, c4, c5, c6, c7, c8, d1, d2, d3, e1, e2, e3, f1, f2, f3, hz, hB⟩ := h
  have hg := World.block_lt_of_cell? w1 _ c0
  exact ⟨later hb c0, later hb c1, later hb c2, later hb c3, later hb c4, later hb c5, later hb c6, later hb c7, later hb c8, later hb d1, later hb d2, later hb d3, later_some hb e1, later_some hb e2, later_some hb e3, later_frozen hb e1 f1, later_frozen hb e2 f2, later_frozen hb e3 f3, Nat.le_trans hz hb.size, hB.trans (hb.mono (Nat.le_of_lt hg))⟩
theorem MS.drew (h : MS g g1 g2 g3 g4 g5 g6 a0 a1 a2 a3 a4 a5 a6 a7 a8 x y z w0 w1) : MS g g1 g2 g3 g4 g5 g6 a0 a1 a2 a3 a4 a5 a6 a7 a8 x y z w0 w1.drew := by
  obtain ⟨c0, c1, c2, c3, c4, c5, c6, c7, c8, d1, d2, d3, e1, e2, e3, f1, f2, f3, hz, hB⟩ := h
  exact ⟨c0, c1, c2, c3, c4, c5, c6, c7, c8, d1, d2, d3, e1, e2, e3, f1, f2, f3, hz, hB.drew⟩
theorem MS.set {k : Nat} {v : Value} (hk : k ≠ g ∧ k ≠ g1 ∧ k ≠ g2 ∧ k ≠ g3 ∧ g ≤ k) (h : MS g g1 g2 g3 g4 g5 g6 a0 a1 a2 a3 a4 a5 a6 a7 a8 x y z w0 w1) : MS g g1 g2 g3 g4 g5 g6 a0 a1 a2 a3 a4 a5 a6 a7 a8 x y z w0 (w1.setCell ⟨k, 0, none⟩ v) := by
  obtain ⟨c0, c1, c2, c3, c4, c5, c6, c7, c8, d1, d2, d3, e1, e2, e3, f1, f2, f3, hz, hB⟩ := h
  obtain ⟨k0, k1, k2, k3, k4⟩ := hk
  exact ⟨set_far k0 c0, set_far k0 c1, set_far k0 c2, set_far k0 c3, set_far k0 c4, set_far k0 c5, set_far k0 c6, set_far k0 c7, set_far k0 c8, set_far k1 d1, set_far k2 d2, set_far k3 d3, set_some e1, set_some e2, set_some e3, by rw [World.frozen?_setCell]; exact f1, by rw [World.frozen?_setCell]; exact f2, by rw [World.frozen?_setCell]; exact f3, by simpa [World.setCell] using hz, hB.setCell k4 _⟩
end
attribute [-go_sem] run_store_float
attribute [local go_sem] run_store_float_ok
set_option maxRecDepth 100000 in
set_option maxHeartbeats 2000000 in
theorem mm_any (a0 a1 a2 a3 a4 a5 a6 a7 a8 x y z r0 r1 r2 : Nat) (h0 : row3 a0 a1 a2 x y z = some r0) (h1 : row3 a3 a4 a5 x y z = some r1) (h2 : row3 a6 a7 a8 x y z = some r2) (w : World) :
    Calls Try.prog 44 #[.agg #[.float .f64 a0, .float .f64 a1, .float .f64 a2, .float .f64 a3, .float .f64 a4, .float .f64 a5, .float .f64 a6, .float .f64 a7, .float .f64 a8], .agg #[.float .f64 x], .agg #[.float .f64 y], .agg #[.float .f64 z]] w fun e w' => e = .returned (.tuple #[.agg #[.float .f64 r0], .agg #[.float .f64 r1], .agg #[.float .f64 r2]]) ∧ Below w.heap.size w w' := by
  obtain ⟨p0, q0, s0, t0, k0, k1, k2, k3, k4⟩ := row3_parts h0
  obtain ⟨p1, q1, s1, t1, l0, l1, l2, l3, l4⟩ := row3_parts h1
  obtain ⟨p2, q2, s2, t2, m0, m1, m2, m3, m4⟩ := row3_parts h2
  clear h0 h1 h2
  have K0 := Lib.hid k0; have K1 := Lib.hid k1; have K2 := Lib.hid k2; have K3 := Lib.hid k3; have K4 := Lib.hid k4
  have L0 := Lib.hid l0; have L1 := Lib.hid l1; have L2 := Lib.hid l2; have L3 := Lib.hid l3; have L4 := Lib.hid l4
  have M0 := Lib.hid m0; have M1 := Lib.hid m1; have M2 := Lib.hid m2; have M3 := Lib.hid m3; have M4 := Lib.hid m4
  clear k0 k1 k2 k3 k4 l0 l1 l2 l3 l4 m0 m1 m2 m3 m4
  go_enter Try.func44, Try.ntmps44
  go_wp2
  obtain ⟨g1, hg1⟩ : ∃ g1, g1 = w.heap.size + 1 := ⟨_, rfl⟩
  obtain ⟨g2, hg2⟩ : ∃ g1, g1 = w.heap.size + 1 + 1 := ⟨_, rfl⟩
  obtain ⟨g3, hg3⟩ : ∃ g1, g1 = w.heap.size + 1 + 1 + 1 := ⟨_, rfl⟩
  obtain ⟨g4, hg4⟩ : ∃ g1, g1 = w.heap.size + 1 + 1 + 1 + 1 := ⟨_, rfl⟩
  obtain ⟨g5, hg5⟩ : ∃ g1, g1 = w.heap.size + 1 + 1 + 1 + 1 + 1 := ⟨_, rfl⟩
  obtain ⟨g6, hg6⟩ : ∃ g1, g1 = w.heap.size + 1 + 1 + 1 + 1 + 1 + 1 := ⟨_, rfl⟩
  rw [← hg6, ← hg5, ← hg4, ← hg3, ← hg2, ← hg1]
  generalize hW : World.alloc _ _ = W
  have hS : MS w.heap.size g1 g2 g3 g4 g5 g6 a0 a1 a2 a3 a4 a5 a6 a7 a8 x y z w W := by
    subst hW hg1 hg2 hg3 hg4 hg5 hg6
    unfold MS
    simp [go_sem]
    have hbb : ∀ (o1 o2 o3 o4 o5 o6 o7 : Obj), Below w.heap.size w (((((((w.alloc o1).alloc o2).alloc o3).alloc o4).alloc o5).alloc o6).alloc o7) := by
      intro o1 o2 o3 o4 o5 o6 o7
      have b1 := (Below.refl w.heap.size w).alloc (Nat.le_refl _) o1
      have b2 := b1.alloc b1.size o2
      have b3 := b2.alloc b2.size o3
      have b4 := b3.alloc b3.size o4
      have b5 := b4.alloc b4.size o5
      have b6 := b5.alloc b5.size o6
      exact b6.alloc b6.size o7
    exact ⟨by omega, hbb _ _ _ _ _ _ _⟩
  have o4 : g4 ≠ w.heap.size ∧ g4 ≠ g1 ∧ g4 ≠ g2 ∧ g4 ≠ g3 ∧ w.heap.size ≤ g4 := by omega
  have o5 : g5 ≠ w.heap.size ∧ g5 ≠ g1 ∧ g5 ≠ g2 ∧ g5 ≠ g3 ∧ w.heap.size ≤ g5 := by omega
  have o6 : g6 ≠ w.heap.size ∧ g6 ≠ g1 ∧ g6 ≠ g2 ∧ g6 ≠ g3 ∧ w.heap.size ≤ g6 := by omega
  have n45 : g4 ≠ g5 := by omega
  have n46 : g4 ≠ g6 := by omega
  have n56 : g5 ≠ g6 := by omega
  obtain ⟨g, hg⟩ : ∃ g, g = w.heap.size := ⟨_, rfl⟩
  rw [← hg] at o4 o5 o6 hS ⊢
  have HG := Lib.hid hg
  clear hg
  have O4 := Lib.hid o4
  have O5 := Lib.hid o5
  have O6 := Lib.hid o6
  have HS := Lib.hid hS
  have N := Lib.hid (And.intro n45 (And.intro n46 n56))
  clear hW hg1 hg2 hg3 hg4 hg5 hg6 o4 o5 o6 n45 n46 n56 hS
  go_region_held3 (fun w' =>   w'.cell? ⟨g, 0, none⟩ = some (.float .f64 a0) ∧ w'.cell? ⟨g, 1, none⟩ = some (.float .f64 a1) ∧ w'.cell? ⟨g, 2, none⟩ = some (.float .f64 a2) ∧
  w'.cell? ⟨g, 3, none⟩ = some (.float .f64 a3) ∧ w'.cell? ⟨g, 4, none⟩ = some (.float .f64 a4) ∧ w'.cell? ⟨g, 5, none⟩ = some (.float .f64 a5) ∧
  w'.cell? ⟨g, 6, none⟩ = some (.float .f64 a6) ∧ w'.cell? ⟨g, 7, none⟩ = some (.float .f64 a7) ∧ w'.cell? ⟨g, 8, none⟩ = some (.float .f64 a8) ∧
  w'.cell? ⟨g1, 0, none⟩ = some (.float .f64 x) ∧ w'.cell? ⟨g2, 0, none⟩ = some (.float .f64 y) ∧ w'.cell? ⟨g3, 0, none⟩ = some (.float .f64 z) ∧
  (w'.cell? ⟨g4, 0, none⟩).isSome = true ∧ (w'.cell? ⟨g5, 0, none⟩).isSome = true ∧ (w'.cell? ⟨g6, 0, none⟩).isSome = true ∧
  w'.frozen? ⟨g4, 0, none⟩ = false ∧ w'.frozen? ⟨g5, 0, none⟩ = false ∧ w'.frozen? ⟨g6, 0, none⟩ = false ∧ w.heap.size ≤ w'.heap.size ∧ Below g w w')
    (first | exact HS.out.drew | (refine MS.keep ‹Below _ _ _› ?_; assumption) | (refine MS.set O4.out ?_; assumption) | (refine MS.set O5.out ?_; assumption) | (refine MS.set O6.out ?_; assumption))
    (first | (go_at_call 49; refine (MulConst_any _ _ _ (by first | exact K0.out | exact K1.out | exact K3.out | exact L0.out | exact L1.out | exact L3.out | exact M0.out | exact M1.out | exact M3.out) _).mono ?_; rintro e w' ⟨rfl, hb⟩) | (go_at_call 47; refine (Add_any _ _ _ (by first | exact K2.out | exact K4.out | exact L2.out | exact L4.out | exact M2.out | exact M4.out) _).mono ?_; rintro e w' ⟨rfl, hb⟩))
  rename_i hH
  obtain ⟨-, -, -, -, -, -, -, -, -, -, -, -, e1, e2, e3, -, -, -, -, hB⟩ := hH
  obtain ⟨c4, c5, c6⟩ := three_set N.out e1 e2 e3
  clear e1 e2 e3
  generalize hWW : World.setCell (World.setCell (World.setCell _ _ _) _ _) _ _ = WW at c4 c5 c6 hB ⊢
  clear hWW
  go_wp2
  refine bodyPost_ret (v := .tuple #[.agg #[.float .f64 r0], .agg #[.float .f64 r1], .agg #[.float .f64 r2]]) (by simp [results, Try.results44, go_sem, c4, c5, c6]) rfl ⟨rfl, ?_⟩
  rw [← HG.out]
  exact hB
end Go.Proofs.Ythjgigahhooilaa.Mat
