import Derived.Test.YtfbmomnfbkdbbaaRows
import Derived.WalkKit
import Derived.ProofKit
import Derived.OpenShut
import Derived.Below
import Derived.Lib.Hide
import Derived.Outline
import Derived.WalkLawsBesides
import Derived.RegionTactic
import Derived.Deep.QuietTactic
import Derived.BigQuiet
namespace Go.Proofs.Ytfbmomnfbkdbbaa.Inv
open Go.ChangeShapes Go.WideShapes Go.ChangeAt Go.RowKit
set_option linter.unusedVariables false
theorem m61 (x : Value) (w : World) : (method 200 61 x "github.com/evanw/esbuild/internal/css_parser.partiallySimplify").run Try.prog w = .ok (61, x) w := by kernel_rfl
theorem m64 (x : Value) (w : World) : (method 200 64 x "github.com/evanw/esbuild/internal/css_parser.partiallySimplify").run Try.prog w = .ok (63, x) w := by kernel_rfl
theorem ta_6161 (x : Value) (w : World) : (Instr.typeAssert (.iface 61 x) 59 61 true).run Try.prog w = .ok (.tuple #[x, .bool true]) w := by kernel_rfl
theorem ta_6164 (x : Value) (w : World) : (Instr.typeAssert (.iface 61 x) 59 64 true).run Try.prog w = .ok (.tuple #[.pointer none, .bool false]) w := by kernel_rfl
theorem ta_6461 (x : Value) (w : World) : (Instr.typeAssert (.iface 64 x) 59 61 true).run Try.prog w = .ok (.tuple #[.pointer none, .bool false]) w := by kernel_rfl
theorem ta_6464 (x : Value) (w : World) : (Instr.typeAssert (.iface 64 x) 59 64 true).run Try.prog w = .ok (.tuple #[x, .bool true]) w := by kernel_rfl
theorem ta_6177 (x : Value) (w : World) : (Instr.typeAssert (.iface 61 x) 59 77 true).run Try.prog w = .ok (.tuple #[.pointer none, .bool false]) w := by kernel_rfl
theorem ta_6477 (x : Value) (w : World) : (Instr.typeAssert (.iface 64 x) 59 77 true).run Try.prog w = .ok (.tuple #[.pointer none, .bool false]) w := by kernel_rfl
/-- v: j Inverts around the numeric in block g; their blocks lie above g and below hi -/
def Chain (g : Nat) : Nat → Nat → World → Value → Prop
  | 0, hi, w, v => v = .iface 61 (.pointer (some ⟨g, 0, none⟩)) ∧ g < hi
  | j + 1, hi, w, v => ∃ b, v = .iface 64 (.pointer (some ⟨b, 0, none⟩)) ∧ b < hi ∧ ∃ v', w.cell? ⟨b, 0, none⟩ = some v' ∧ w.frozen? ⟨b, 0, none⟩ = false ∧ Chain g j b w v'
def LF (g : Nat) (U : ByteArray) (x : Nat) (w : World) : Prop := w.cell? ⟨g, 0, none⟩ = some (.string U) ∧ w.cell? ⟨g, 1, none⟩ = some (.float .f64 x)
def Eff (g hi : Nat) (w w' : World) : Prop := Below (g + 1) w w' ∧ ∀ p : Addr, hi ≤ p.block → w'.cell? p = w.cell? p ∧ w'.frozen? p = w.frozen? p
def Done (g j hi : Nat) (w : World) (e : Ending) (w' : World) : Prop := ∃ v', e = .returned v' ∧ Chain g (j % 2) hi w' v' ∧ Eff g hi w w'
theorem Chain.lt {g : Nat} : ∀ {j hi : Nat} {w : World} {v : Value}, Chain g j hi w v → g < hi
  | 0, _, _, _, h => h.2
  | j + 1, _, _, _, ⟨b, _, hb, v', _, _, h⟩ => by have := Chain.lt h; omega
theorem Eff.refl (g hi : Nat) (w : World) : Eff g hi w w := ⟨Below.refl _ _, fun p _ => ⟨rfl, rfl⟩⟩
theorem LF.keep {g : Nat} {U : ByteArray} {x : Nat} {w w' : World} (h : LF g U x w) (hb : Below (g + 1) w w') : LF g U x w' :=
  ⟨(hb.cell (p := ⟨g, 0, none⟩) (Nat.lt_succ_self g)).trans h.1, (hb.cell (p := ⟨g, 1, none⟩) (Nat.lt_succ_self g)).trans h.2⟩
theorem Eff.set {g b hi : Nat} {w w1 : World} {v : Value} (h : Eff g b w w1) (hg : g < b) (hb : b < hi) : Eff g hi w (w1.setCell ⟨b, 0, none⟩ v) := by
  refine ⟨h.1.setCell (p := ⟨b, 0, none⟩) (by exact hg) _, fun p hp => ?_⟩
  have h2 := h.2 p (by omega)
  refine ⟨?_, by rw [World.frozen?_setCell]; exact h2.2⟩
  rw [World.cell?_setCell_other]
  · exact h2.1
  · intro e; subst e; simp at hp; omega
set_option maxRecDepth 100000 in
theorem num_any (g : Nat) (w : World) :
    Calls Try.prog 61 #[.pointer (some ⟨g, 0, none⟩)] w fun e w' => e = .returned (.iface 61 (.pointer (some ⟨g, 0, none⟩))) ∧ w = w' := by
  go_enter Try.func61, Try.ntmps61
  go_wp2
  go_ret
  exact ⟨rfl, rfl⟩
theorem Eff.free {g b : Nat} {w w1 : World} (h : Eff g b w w1) (hf : w.frozen? ⟨b, 0, none⟩ = false) : w1.frozen? ⟨b, 0, none⟩ = false := ((h.2 ⟨b, 0, none⟩ (Nat.le_refl b)).2).trans hf
theorem Eff.at {g b : Nat} {w w1 : World} {v : Value} (h : Eff g b w w1) (hf : w.cell? ⟨b, 0, none⟩ = some v) : w1.cell? ⟨b, 0, none⟩ = some v := ((h.2 ⟨b, 0, none⟩ (Nat.le_refl b)).1).trans hf
set_option maxRecDepth 100000 in
set_option maxHeartbeats 1000000 in
theorem inv_0 (g : Nat) (U : ByteArray) (x : Nat) (hU : U.toList.isEmpty = false) (b hi : Nat) (w : World) (hc : w.cell? ⟨b, 0, none⟩ = some (.iface 61 (.pointer (some ⟨g, 0, none⟩)))) (hf : w.frozen? ⟨b, 0, none⟩ = false) (hgb : g < b) (hb : b < hi) (hl : LF g U x w) :
    Calls Try.prog 63 #[.pointer (some ⟨b, 0, none⟩)] w (Done g 1 hi w) := by
  have hm := m61
  have ta1 := ta_6161
  have ta2 := ta_6164
  go_enter Try.func63, Try.ntmps63
  go_wp2_with fail
  refine (num_any g w).mono ?_
  rintro e w' ⟨rfl, rfl⟩
  have c1 : (w.setCell ⟨b, 0, none⟩ (.iface 61 (.pointer (some ⟨g, 0, none⟩)))).cell? ⟨b, 0, none⟩ = some (.iface 61 (.pointer (some ⟨g, 0, none⟩))) := World.cell?_setCell_same' w _ _ (by rw [hc]; rfl)
  have HE := Lib.hid ((Eff.refl g b w).set (v := Value.iface 61 (.pointer (some ⟨g, 0, none⟩))) hgb hb)
  have l1 := hl.keep HE.out.1
  have l2 := l1.1
  clear l1 hl hm
  go_wp2
  go_ret
  exact ⟨_, rfl, ⟨b, rfl, hb, _, c1, by rw [World.frozen?_setCell]; exact hf, rfl, hgb⟩, HE.out⟩
set_option maxRecDepth 100000 in
set_option maxHeartbeats 1000000 in
/-- the child was an Invert; behind the call the child's answer is the leaf -/
theorem inv_even (g : Nat) (U : ByteArray) (x : Nat) (hU : U.toList.isEmpty = false) (b b' hi j : Nat) (w : World) (hc : w.cell? ⟨b, 0, none⟩ = some (.iface 64 (.pointer (some ⟨b', 0, none⟩)))) (hf : w.frozen? ⟨b, 0, none⟩ = false) (hgb : g < b) (hb : b < hi) (hl : LF g U x w)
    (hj : j % 2 = 0) (ih : Calls Try.prog 63 #[.pointer (some ⟨b', 0, none⟩)] w (Done g j b w)) :
    Calls Try.prog 63 #[.pointer (some ⟨b, 0, none⟩)] w (Done g (j + 1) hi w) := by
  have hj1 : (j + 1) % 2 = 1 := by omega
  have HJ := Lib.hid hj1
  have HI := Lib.hid ih
  have HL := Lib.hid hl
  have HJ0 := Lib.hid hj
  clear ih hl hj hj1
  have hm := m64
  have ta1 := ta_6161
  have ta2 := ta_6164
  go_enter Try.func63, Try.ntmps63
  go_wp2_with fail
  refine HI.out.mono ?_
  rintro e w1 ⟨v, rfl, hch, he⟩
  rw [HJ0.out] at hch
  obtain ⟨rfl, _⟩ := hch
  have hf1 := he.free hf
  have hc1 := he.at hc
  have c1 : (w1.setCell ⟨b, 0, none⟩ (.iface 61 (.pointer (some ⟨g, 0, none⟩)))).cell? ⟨b, 0, none⟩ = some (.iface 61 (.pointer (some ⟨g, 0, none⟩))) := World.cell?_setCell_same' w1 _ _ (by rw [hc1]; rfl)
  have HE := Lib.hid (he.set (v := Value.iface 61 (.pointer (some ⟨g, 0, none⟩))) hgb hb)
  have l2 := (HL.out.keep HE.out.1).1
  clear hm HI HJ0 he HL
  go_wp2
  go_ret
  refine ⟨_, rfl, ?_, HE.out⟩
  rw [HJ.out]
  exact ⟨b, rfl, hb, _, c1, by rw [World.frozen?_setCell]; exact hf1, rfl, hgb⟩
set_option maxRecDepth 100000 in
set_option maxHeartbeats 1000000 in
theorem inv_odd (g : Nat) (U : ByteArray) (x : Nat) (b b' hi j : Nat) (w : World) (hc : w.cell? ⟨b, 0, none⟩ = some (.iface 64 (.pointer (some ⟨b', 0, none⟩)))) (hf : w.frozen? ⟨b, 0, none⟩ = false) (hgb : g < b) (hb : b < hi)
    (hj : j % 2 = 1) (ih : Calls Try.prog 63 #[.pointer (some ⟨b', 0, none⟩)] w (Done g j b w)) :
    Calls Try.prog 63 #[.pointer (some ⟨b, 0, none⟩)] w (Done g (j + 1) hi w) := by
  have hj1 : (j + 1) % 2 = 0 := by omega
  have HJ := Lib.hid hj1
  have HI := Lib.hid ih
  have HJ0 := Lib.hid hj
  clear ih hj hj1
  have hm := m64
  have ta1 := ta_6461
  have ta2 := ta_6464
  go_enter Try.func63, Try.ntmps63
  go_wp2_with fail
  refine HI.out.mono ?_
  rintro e w1 ⟨v, rfl, hch, he⟩
  rw [HJ0.out] at hch
  obtain ⟨b1, rfl, hb1, v', hcv, _, rfl, hgb1⟩ := hch
  have hf1 := he.free hf
  have hc1 := he.at hc
  have c1 : (w1.setCell ⟨b, 0, none⟩ (.iface 64 (.pointer (some ⟨b1, 0, none⟩)))).cell? ⟨b, 0, none⟩ = some (.iface 64 (.pointer (some ⟨b1, 0, none⟩))) := World.cell?_setCell_same' w1 _ _ (by rw [hc1]; rfl)
  have c2 : (w1.setCell ⟨b, 0, none⟩ (.iface 64 (.pointer (some ⟨b1, 0, none⟩)))).cell? ⟨b1, 0, none⟩ = some (.iface 61 (.pointer (some ⟨g, 0, none⟩))) := by
    rw [World.cell?_setCell_other]
    · exact hcv
    · intro e; injection e with e1; omega
  have HE := Lib.hid (he.set (v := Value.iface 64 (.pointer (some ⟨b1, 0, none⟩))) hgb hb)
  clear hm HI HJ0 he hcv
  go_wp2
  go_ret
  refine ⟨_, rfl, ?_, HE.out⟩
  rw [HJ.out]
  exact ⟨rfl, by omega⟩
theorem inv_any (g : Nat) (U : ByteArray) (x : Nat) (hU : U.toList.isEmpty = false) : ∀ (j b hi : Nat) (w : World) (v : Value), w.cell? ⟨b, 0, none⟩ = some v → w.frozen? ⟨b, 0, none⟩ = false → Chain g j b w v → b < hi → LF g U x w →
    Calls Try.prog 63 #[.pointer (some ⟨b, 0, none⟩)] w (Done g (j + 1) hi w)
  | 0, b, hi, w, v, hc, hf, ⟨hv, hgb⟩, hb, hl => inv_0 g U x hU b hi w (by rw [hc, hv]) hf hgb hb hl
  | j + 1, b, hi, w, v, hc, hf, ⟨b', hv, hb', v', hc', hf', hch⟩, hb, hl => by
    have hgb : g < b := by have := Chain.lt hch; omega
    have ih := inv_any g U x hU j b' b w v' hc' hf' hch hb' hl
    subst hv
    rcases Nat.mod_two_eq_zero_or_one (j + 1) with h | h
    · exact inv_even g U x hU b b' hi (j + 1) w hc hf hgb hb hl h ih
    · exact inv_odd g U x b b' hi (j + 1) w hc hf hgb hb h ih
end Go.Proofs.Ytfbmomnfbkdbbaa.Inv
