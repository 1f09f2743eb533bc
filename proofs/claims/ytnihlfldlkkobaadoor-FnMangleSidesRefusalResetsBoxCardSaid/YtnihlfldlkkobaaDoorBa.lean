/-
  The box tracker's cells; rules; tokens by code.
-/
import Derived.Test.YtnihlfldlkkobaaDoorCb
import Derived.Deep.RegionWith
import Derived.Deep.RegionHeld3
import Derived.Deep.DeepCutAuto
import Derived.Deep.CutBlock
import Derived.DeepKeys
import Derived.LaidEqlPtr
namespace Go.Proofs.YtnihlfldlkkobaaDoor.Bx
open Go.ChangeShapes Go.WideShapes Go.ChangeAt Go.RowKit Rg
set_option linter.unusedVariables false
set_option linter.unusedSimpArgs false
theorem th_set {w : World} {b o n : Nat} {p : Addr} {x : Value} (h : w.there b o n) : (w.setCell p x).there b o n := fun j hj =>
  ⟨set_some (h j hj).1, by simp only [World.frozen?_setCell]; exact (h j hj).2⟩
theorem rg_far {w : World} {b o : Nat} {cs : List Value} {p : Addr} {x : Value} (h : w.rangeAt b o cs) (hne : ∀ j, j < cs.length → p ≠ ⟨b, o + j, none⟩) : (w.setCell p x).rangeAt b o cs := fun j v hv => by
  have hj : j < cs.length := (List.getElem?_eq_some_iff.1 hv).1
  rw [World.cell?_setCell_other _ _ _ _ (fun e => hne j hj e)]
  exact h j v hv
theorem rg_other {w : World} {b o : Nat} {cs : List Value} {p : Addr} {x : Value} (h : w.rangeAt b o cs) (hne : p.block ≠ b) : (w.setCell p x).rangeAt b o cs := rg_far h fun j _ e => hne (by rw [e])
theorem cell_other {w : World} {p q : Addr} {v x : Value} (h : w.cell? q = some v) (hne : p.block ≠ q.block) : (w.setCell p x).cell? q = some v := by
  rw [World.cell?_setCell_other]
  · exact h
  · intro e; exact hne (by rw [e])
/-- a side: text, place, kind, safety, rule, alone -/
structure SD where
  t : ByteArray
  l : Int
  k : Int
  st : Int
  i : Nat
  s : Bool
def sdG (t : ByteArray) (l k st : Int) (i : Nat) (s : Bool) : List Value := [.pointer none, .string t, .int .i32 l, .int .u32 0, .int .u16 0, .int .u8 k, .int .u8 0, .string ⟨#[]⟩, .int .u8 st, .int .u32 (i : Int), .bool s]
def sdR (x : SD) : List Value := sdG x.t x.l x.k x.st x.i x.s
def z0 : SD := ⟨⟨#[]⟩, 0, 0, 0, 0, false⟩
theorem sdR_len (x : SD) : (sdR x).length = 11 := rfl
theorem sdR_one (x : SD) : ∀ v ∈ sdR x, v.oneCell' = true := by
  intro v hv
  simp only [sdR, sdG, List.mem_cons, List.not_mem_nil, or_false] at hv
  rcases hv with rfl | rfl | rfl | rfl | rfl | rfl | rfl | rfl | rfl | rfl | rfl <;> rfl
def up (σ : Nat → SD) (i : Nat) (x : SD) (j : Nat) : SD := if j = i then x else σ j
/-- the box in block b -/
def BB (kt : ByteArray) (aa imp : Bool) (key : Int) (σ : Nat → SD) (b : Nat) (w : World) : Prop :=
  w.cell? ⟨b, 0, none⟩ = some (.string kt) ∧ (∀ i, i < 4 → w.rangeAt b (1 + i * 11) (sdR (σ i))) ∧ w.cell? ⟨b, 45, none⟩ = some (.bool aa) ∧ w.cell? ⟨b, 46, none⟩ = some (.bool imp) ∧ w.cell? ⟨b, 47, none⟩ = some (.int .u16 key) ∧ w.there b 0 48
section
variable {kt : ByteArray} {aa imp : Bool} {key : Int} {σ : Nat → SD} {b : Nat} {w w' : World}
theorem BB.keep (h : BB kt aa imp key σ b w) (hb : Below w.heap.size w w') : BB kt aa imp key σ b w' := by
  obtain ⟨h1, h2, h3, h4, h5, h6⟩ := h
  exact ⟨later hb h1, fun i hi => rg_keep hb (h2 i hi), later hb h3, later hb h4, later hb h5, th_keep hb h6⟩
theorem BB.other (h : BB kt aa imp key σ b w) {p : Addr} (hp : p.block ≠ b) (x : Value) : BB kt aa imp key σ b (w.setCell p x) := by
  obtain ⟨h1, h2, h3, h4, h5, h6⟩ := h
  exact ⟨cell_other h1 hp, fun i hi => rg_other (h2 i hi) hp, cell_other h3 hp, cell_other h4 hp, cell_other h5 hp, th_set h6⟩
theorem BB.imp_ (h : BB kt aa imp key σ b w) (imp' : Bool) : BB kt aa imp' key σ b (w.setCell ⟨b, 46, none⟩ (.bool imp')) := by
  obtain ⟨h1, h2, h3, h4, h5, h6⟩ := h
  refine ⟨set_far (by omega) h1, fun i hi => rg_far (h2 i hi) ?_, set_far (by omega) h3, set_same (by rw [h4]; rfl), set_far (by omega) h5, th_set h6⟩
  intro j hj e
  rw [sdR_len] at hj
  injection e with _ e
  omega
theorem BB.lt (h : BB kt aa imp key σ b w) : b < w.heap.size := World.block_lt_of_cell? w _ h.1
theorem cell_sets {b o : Nat} {vs : List Value} {g j : Nat} {v : Value} (h : w.cell? ⟨g, j, none⟩ = some v) (hap : g ≠ b ∨ j < o ∨ o + vs.length ≤ j) : (w.setCells b o vs).cell? ⟨g, j, none⟩ = some v := by
  have h1 : w.rangeAt g j [v] := fun i u hu => by
    rcases i with _ | i
    · simp only [List.getElem?_cons_zero, Option.some.injEq] at hu; subst hu; exact h
    · simp at hu
  have := World.rangeAt_setCells_apart h1 b o vs (by rcases hap with h | h | h; exact .inl h; exact .inr (.inl (by simp only [List.length_cons, List.length_nil]; omega)); exact .inr (.inr h)) 0 v rfl
  exact this
theorem BB.side (h : BB kt aa imp key σ b w) {i : Nat} (hi : i < 4) (x : SD) : BB kt aa imp key (up σ i x) b (w.setCells b (1 + i * 11) (sdR x)) := by
  obtain ⟨h1, h2, h3, h4, h5, h6⟩ := h
  refine ⟨cell_sets h1 (.inr (.inl (by omega))), fun j hj => ?_, cell_sets h3 (.inr (.inr (by rw [sdR_len]; omega))), cell_sets h4 (.inr (.inr (by rw [sdR_len]; omega))), cell_sets h5 (.inr (.inr (by rw [sdR_len]; omega))), World.there_setCells h6 _ _ _⟩
  unfold up
  by_cases e : j = i
  · subst e
    rw [if_pos rfl]
    exact World.rangeAt_setCells_same _ _ _ _ (th_sub h6 (by omega) (by rw [sdR_len]; omega))
  · rw [if_neg e]
    refine World.rangeAt_setCells_apart (h2 j hj) _ _ _ (.inr ?_)
    rw [sdR_len, sdR_len]
    omega
def Z44 : List Value := sdR z0 ++ (sdR z0 ++ (sdR z0 ++ sdR z0))
set_option maxRecDepth 100000 in
theorem BB.zero (h : BB kt aa imp key σ b w) : BB kt aa imp key (fun _ => z0) b (w.setCells b 1 Z44) := by
  obtain ⟨h1, h2, h3, h4, h5, h6⟩ := h
  have hl : Z44.length = 44 := rfl
  refine ⟨cell_sets h1 (.inr (.inl (by omega))), fun j hj => ?_, cell_sets h3 (.inr (.inr (by rw [hl]; omega))), cell_sets h4 (.inr (.inr (by rw [hl]; omega))), cell_sets h5 (.inr (.inr (by rw [hl]; omega))), World.there_setCells h6 _ _ _⟩
  have hr := World.rangeAt_setCells_same w b 1 Z44 (th_sub h6 (by omega) (by rw [hl]; omega))
  have r1 := rg_right (cs := sdR z0) (ds := sdR z0 ++ (sdR z0 ++ sdR z0)) hr
  rw [sdR_len] at r1
  have r2 := rg_right (cs := sdR z0) (ds := sdR z0 ++ sdR z0) r1
  rw [sdR_len] at r2
  have r3 := rg_right (cs := sdR z0) (ds := sdR z0) r2
  rw [sdR_len] at r3
  have c : j = 0 ∨ j = 1 ∨ j = 2 ∨ j = 3 := by omega
  rcases c with rfl | rfl | rfl | rfl
  · exact rg_left (cs := sdR z0) (ds := sdR z0 ++ (sdR z0 ++ sdR z0)) hr
  · exact rg_left (cs := sdR z0) (ds := sdR z0 ++ sdR z0) r1
  · exact rg_left (cs := sdR z0) (ds := sdR z0) r2
  · exact r3
end
section
variable {w0 w w' : World} {r : Nat}
theorem gb_below (hb : Below w.heap.size w w') : w.grownBy w' (some r) := ⟨hb.os, hb.tape, hb.output, hb.size, fun i hi _ => hb.block i hi⟩
theorem gb_refl (w : World) (r : Nat) : w.grownBy w (some r) := gb_below (Below.refl _ _)
theorem gb_then (h : w0.grownBy w (some r)) (hb : Below w.heap.size w w') : w0.grownBy w' (some r) := h.trans (gb_below hb)
theorem gb_set (h : w0.grownBy w (some r)) (o : Nat) (v : Value) : w0.grownBy (w.setCell ⟨r, o, none⟩ v) (some r) :=
  ⟨h.os, h.tape, h.output, by simpa [World.setCell] using h.size, fun i hi hne => (heap_setCell_other w ⟨r, o, none⟩ i v (fun e => hne (by rw [e]))).trans (h.block i hi hne)⟩
theorem gb_new (h : w0.grownBy w (some r)) {b : Nat} (hb : w0.heap.size ≤ b) (o : Nat) (v : Value) : w0.grownBy (w.setCell ⟨b, o, none⟩ v) (some r) :=
  ⟨h.os, h.tape, h.output, by simpa [World.setCell] using h.size, fun i hi hne => (heap_setCell_other w ⟨b, o, none⟩ i v (fun e => by dsimp only at e; omega)).trans (h.block i hi hne)⟩
theorem gb_sets (h : w0.grownBy w (some r)) (o : Nat) (vs : List Value) : w0.grownBy (w.setCells r o vs) (some r) := by
  induction vs generalizing o w with
  | nil => exact h
  | cons v t ih => rw [World.setCells]; exact ih (gb_set h o v) (o + 1)
end
theorem wpl_build0 {P : Program} {ops : Array Oper} {rest : List Oper} {o : Oper} {a : Act} {w : World} {Q : Exit → Act → World → Prop} (hg : o.guard = none) (t : TypeId) (ho : o.op = .build t #[]) (r : Value) (hrun : (Instr.build t #[]).run P w = .ok r w) (h : wpList P ops Q rest (a.put o.dst r) w) : wpList P ops Q (o :: rest) a w := by
  refine wpList_plain hg fun _ hK => ?_
  unfold Oper.wp execOp
  simp only [ho, Sem.run_bind, List.map_toArray, List.map_nil, hrun, Result.andThen_ok]
  exact hK _ _ h
theorem bldZ (W : World) : (Instr.build 68 #[]).run Tryd.prog W = .ok (.agg Z44.toArray) W := run_build W _ _ _ (by kernel_rfl)
theorem szQ4 : (Tryd.prog.info? 68).map (·.size) = some Z44.toArray.size := by kernel_rfl
theorem Z44_one : Z44.toArray.all (·.oneCell') = true := by simp [Z44, sdR, sdG, z0, Value.oneCell']
def bxR (kt : ByteArray) (aa imp : Bool) (key : Int) : List Value := .string kt :: (Z44 ++ [.bool aa, .bool imp, .int .u16 key])
theorem bld59 (kt : ByteArray) (aa imp : Bool) (key : Int) (W : World) : (Instr.build 70 #[(4, .int .u16 key), (0, .string kt), (2, .bool aa), (3, .bool imp)]).run Tryd.prog W = .ok (.agg (bxR kt aa imp key).toArray) W := run_build W _ _ _ (by kernel_rfl)
theorem wpl_build59 {P : Program} {ops : Array Oper} {rest : List Oper} {o : Oper} {a : Act} {w : World} {Q : Exit → Act → World → Prop} (hg : o.guard = none) (t : TypeId) (x0 x1 x2 x3 : Operand) (ho : o.op = .build t #[(4, x0), (0, x1), (2, x2), (3, x3)]) (v0 v1 v2 v3 r : Value) (h0 : a.eval x0 = v0) (h1 : a.eval x1 = v1) (h2 : a.eval x2 = v2) (h3 : a.eval x3 = v3) (hrun : (Instr.build t #[(4, v0), (0, v1), (2, v2), (3, v3)]).run P w = .ok r w) (h : wpList P ops Q rest (a.put o.dst r) w) : wpList P ops Q (o :: rest) a w := by
  refine wpList_plain hg fun _ hK => ?_
  unfold Oper.wp execOp
  simp only [ho, Sem.run_bind, List.map_toArray, List.map_cons, List.map_nil, h0, h1, h2, h3, hrun, Result.andThen_ok]
  exact hK _ _ h
theorem BB.new (kt : ByteArray) (aa imp : Bool) (key : Int) (t : TypeId) (w : World) : BB kt aa imp key (fun _ => z0) w.heap.size (w.alloc (.cells (bxR kt aa imp key).toArray t)) := by
  have hr : (w.alloc (.cells (bxR kt aa imp key).toArray t)).rangeAt w.heap.size 0 (bxR kt aa imp key) := rg_new w (bxR kt aa imp key).toArray t
  have hz : (w.alloc (.cells (bxR kt aa imp key).toArray t)).rangeAt w.heap.size 1 Z44 := by
    have h1 := rg_right (cs := [.string kt]) (ds := Z44 ++ [.bool aa, .bool imp, .int .u16 key]) hr
    exact rg_left h1
  refine ⟨hr 0 _ rfl, fun i hi => ?_, hr 45 _ rfl, hr 46 _ rfl, hr 47 _ rfl, th_new w _ _ rfl⟩
  have r1 := rg_right (cs := sdR z0) (ds := sdR z0 ++ (sdR z0 ++ sdR z0)) hz
  rw [sdR_len] at r1
  have r2 := rg_right (cs := sdR z0) (ds := sdR z0 ++ sdR z0) r1
  rw [sdR_len] at r2
  have r3 := rg_right (cs := sdR z0) (ds := sdR z0) r2
  rw [sdR_len] at r3
  have c : i = 0 ∨ i = 1 ∨ i = 2 ∨ i = 3 := by omega
  rcases c with rfl | rfl | rfl | rfl
  · exact rg_left (cs := sdR z0) (ds := sdR z0 ++ (sdR z0 ++ sdR z0)) hz
  · exact rg_left (cs := sdR z0) (ds := sdR z0 ++ sdR z0) r1
  · exact rg_left (cs := sdR z0) (ds := sdR z0) r2
  · exact r3
set_option maxRecDepth 100000 in
set_option maxHeartbeats 2000000 in
theorem nb_any (kt : ByteArray) (aa imp : Bool) (key : Int) (w : World) : Calls Tryd.prog 10 #[.int .u16 key, .string kt, .bool aa, .bool imp] w fun e w' => ∃ b, e = .returned (.pointer (some ⟨b, 0, none⟩)) ∧ BB kt aa imp key (fun _ => z0) b w' ∧ w.heap.size ≤ b ∧ Below w.heap.size w w' := by
  have hB := BB.new kt aa imp key 70 w
  have HB := Lib.hid hB
  clear hB
  go_enter Tryd.func10, Tryd.ntmps10
  go_wp2_with (first | (refine wpl_build59 rfl 70 _ _ _ _ rfl (.int .u16 key) (.string kt) (.bool aa) (.bool imp) (.agg (bxR kt aa imp key).toArray) rfl rfl rfl rfl (bld59 _ _ _ _ _) ?_))
  go_ret
  exact ⟨_, rfl, HB.out, Nat.le_refl _, (Below.refl _ _).alloc (Nat.le_refl _) _⟩
end Go.Proofs.YtnihlfldlkkobaaDoor.Bx
