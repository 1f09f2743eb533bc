/-
  Rows under construction; inner compounds as they are built.
-/
import Derived.Test.YtbpnmiedomchpaaFe
namespace Go.Proofs.Ytbpnmiedomchpaa.Fg
open Go.ChangeShapes Go.WideShapes Go.ChangeAt Go.RowKit Rg
set_option linter.unusedVariables false
set_option linter.unusedSimpArgs false
theorem flat_len {α : Type} (f : α → List Value) {s : Nat} (hs : ∀ x, (f x).length = s) : ∀ L : List α, (L.flatMap f).length = L.length * s
  | [] => by simp
  | x :: r => by rw [List.flatMap_cons, List.length_append, flat_len f hs r, hs, List.length_cons, Nat.add_mul]; omega
theorem flat_at {α : Type} (f : α → List Value) {s : Nat} (hs : ∀ x, (f x).length = s) : ∀ (L : List α) (i j : Nat) (h : i < L.length), j < s → (L.flatMap f)[i * s + j]? = (f L[i])[j]?
  | [], _, _, h, _ => absurd h (by simp)
  | x :: r, 0, j, h, hj => by
    rw [List.flatMap_cons, List.getElem?_append_left (by rw [hs]; omega)]
    simp
  | x :: r, i + 1, j, h, hj => by
    rw [List.flatMap_cons, List.getElem?_append_right (by rw [hs, Nat.add_mul]; omega), hs, show (i + 1) * s + j - s = i * s + j by rw [Nat.add_mul]; omega, flat_at f hs r i j (by simpa using h) hj]
    simp
theorem own_slice {w : World} {B n s : Nat} {e : TypeId} {v : Value} {xs : List Value} (h : w.ownsRow B e s v n xs) : ∃ a c, v = .slice a n c := by
  rcases h.2 with ⟨rfl, h0⟩ | ⟨g, cap, cur, rfl, _⟩
  · exact ⟨none, 0, by rw [h0]⟩
  · exact ⟨_, _, rfl⟩
theorem own_range {α : Type} {w : World} {lo : Nat} {t : TypeId} {s n c g : Nat} {cells : α → List Value} {B : List α} (h : w.ownsRow lo t s (.slice (some ⟨g, 0, none⟩) n c) n (B.flatMap cells)) (hl : B.length = n) (hs : ∀ x, (cells x).length = s) {j : Nat} (hj : j < B.length) : w.rangeAt g (j * s) (cells B[j]) := fun k u hk => by
  have hk2 : k < s := by rw [← hs B[j]]; exact (List.getElem?_eq_some_iff.1 hk).1
  have hlt : j * s + k < n * s := by
    have : (j + 1) * s ≤ n * s := Nat.mul_le_mul_right _ (by omega)
    rw [Nat.add_mul, Nat.one_mul] at this
    omega
  rw [h.cellAt _ hlt, flat_at cells hs B j k hj hk2]
  exact hk
/-- one cell of a box is set -/
theorem rg_set {w : World} {b k n : Nat} {cs : List Value} {v : Value} (h : w.rangeAt b 0 cs) (hk : k < cs.length) : (w.setCell ⟨b, k, none⟩ v).rangeAt b 0 (cs.set k v) := fun j u hj => by
  rw [Nat.zero_add]
  by_cases e : j = k
  · subst e
    rw [List.getElem?_set_self (by omega)] at hj
    obtain rfl := Option.some.inj hj
    exact set_same (by have := h j _ (List.getElem?_eq_getElem hk); rw [Nat.zero_add] at this; rw [this]; rfl)
  · rw [List.getElem?_set_ne (fun h => e h.symm)] at hj
    have := h j u hj
    rw [Nat.zero_add] at this
    exact set_far (fun h => e h.symm) this
theorem th_set {w : World} {b k n : Nat} {v : Value} (h : w.there b 0 n) : (w.setCell ⟨b, k, none⟩ v).there b 0 n := World.there_setCells h b k [v]
theorem heap_set {w : World} {b k i : Nat} {v : Value} (h : i ≠ b) : (w.setCell ⟨b, k, none⟩ v).heap[i]? = w.heap[i]? := Below.heap_setCell w _ _ _ h
theorem size_set {w : World} {b k : Nat} {v : Value} : (w.setCell ⟨b, k, none⟩ v).heap.size = w.heap.size := size_setCells b [v] k w
theorem step_bs1 {P : Program} {ops : Array Oper} {o : Oper} {a : Act} {w : World} {K : Act → World → Prop} {Q : Exit → Act → World → Prop} {E : Prop} (hgd : o.guard = none) (t : TypeId) (x : Operand) (ho : o.op = .buildSlice t 1 #[(0, x)])
    (v r : Value) (W : World) (hx : a.eval x = v) (hrun : (Instr.buildSlice t 1 #[(0, v)]).run P w = .ok r W) (h : K (a.put o.dst r) W) : if Region.wanted o (yielded ops a.tmps) = true then Oper.wp P o a w K Q else E := by
  have hw : Region.wanted o (yielded ops a.tmps) = true := by simp [Region.wanted, hgd]
  rw [if_pos hw]
  unfold Oper.wp execOp
  simp only [ho, Sem.run_bind, List.map_toArray, List.map_cons, List.map_nil, hx, hrun, Result.andThen_ok]
  exact h
/-- a row under construction; what it leads to lies in Z, outside of the row itself -/
def Bld {α β : Type} (t : TypeId) (s : Nat) (cells : β → List Value) (el : (Nat → Prop) → World → β → α → Prop) (lo : Nat) (Z : Nat → Prop) (v : Value) (L : List α) (w : World) : Prop :=
  ∃ B : List β, B.length = L.length ∧ w.ownsRow lo t s v L.length (B.flatMap cells) ∧ ∀ i (h : i < B.length) (h' : i < L.length), el (fun b => Z b ∧ some b ≠ v.ownBlock) w B[i] L[i]
def LocE {α β : Type} (el : (Nat → Prop) → World → β → α → Prop) : Prop := ∀ (X Y : Nat → Prop) (w w' : World) (x : β) (a : α), To X w Y w' → el X w x a → el Y w' x a
section
variable {α β : Type} {t : TypeId} {s : Nat} {cells : β → List Value} {el : (Nat → Prop) → World → β → α → Prop} {lo : Nat} {Z Z' : Nat → Prop} {v : Value} {L : List α} {w w' : World}
theorem Bld.lt (h : Bld t s cells el lo Z v L w) {b : Nat} (hb : v.ownBlock = some b) : lo ≤ b ∧ b < w.heap.size := by
  obtain ⟨B, -, h2, -⟩ := h
  exact h2.lt b hb
theorem Bld.slice (h : Bld t s cells el lo Z v L w) : ∃ a c, v = .slice a L.length c := by
  obtain ⟨B, -, h2, -⟩ := h
  exact own_slice h2
/-- other blocks turn -/
theorem Bld.to (hl : LocE el) (h : Bld t s cells el lo Z v L w) (hb : ∀ b, Z b → Z' b ∧ w'.heap[b]? = w.heap[b]?) (ho : ∀ b, v.ownBlock = some b → w'.heap[b]? = w.heap[b]?) : Bld t s cells el lo Z' v L w' := by
  obtain ⟨B, h1, h2, h3⟩ := h
  exact ⟨B, h1, own_ag h2 ho, fun i a b => hl _ _ _ _ _ _ (fun c hc => ⟨⟨(hb c hc.1).1, hc.2⟩, (hb c hc.1).2⟩) (h3 i a b)⟩
theorem Bld.keep (hl : LocE el) (h : Bld t s cells el lo Z v L w) (hb : Below w.heap.size w w') (hz : ∀ b, Z b → b < w.heap.size) (hz2 : ∀ b, Z b → Z' b) : Bld t s cells el lo Z' v L w' :=
  h.to hl (fun b hzb => ⟨hz2 b hzb, hb.block b (hz b hzb)⟩) (fun b hbo => hb.block b (h.lt hbo).2)
/-- one element more: B is the row so far -/
theorem Bld.push (hl : LocE el) {v' : Value} {x : β} {a : α} {B : List β} (h1 : B.length = L.length) (h3 : ∀ i (h : i < B.length) (h' : i < L.length), el (fun b => Z b ∧ some b ≠ v.ownBlock) w B[i] L[i])
    (hz : ∀ b, Z b → b < w.heap.size) (hz2 : ∀ b, Z b → Z' b) (hx : el (fun b => Z b ∧ some b ≠ v.ownBlock) w x a) (ho : w'.ownsRow lo t s v' (L.length + 1) (B.flatMap cells ++ cells x)) (hg : w.grownBy w' v.ownBlock) (hv : v'.ownBlock = v.ownBlock ∨ ∀ b, v'.ownBlock = some b → w.heap.size ≤ b) : Bld t s cells el lo Z' v' (L ++ [a]) w' := by
  have hto : To (fun b => Z b ∧ some b ≠ v.ownBlock) w (fun b => Z' b ∧ some b ≠ v'.ownBlock) w' := fun b hb => ⟨⟨hz2 b hb.1, fun e => by
    rcases hv with h | h
    · exact hb.2 (by rw [← h]; exact e)
    · have := h b e.symm; have := hz b hb.1; omega⟩, hg.block b (hz b hb.1) hb.2⟩
  refine ⟨B ++ [x], by simp [h1], by rw [List.length_append, List.flatMap_append]; simpa using ho, fun i a' b' => ?_⟩
  by_cases e : i < B.length
  · rw [List.getElem_append_left e, List.getElem_append_left (by omega)]
    exact hl _ _ _ _ _ _ hto (h3 i e (by omega))
  · have : i = B.length := by simp at a'; omega
    subst this
    have e2 : (L ++ [a])[B.length]'b' = a := by rw [List.getElem_append_right (by omega)]; simp [h1]
    rw [e2, List.getElem_append_right (Nat.le_refl _)]
    simp only [Nat.sub_self, List.getElem_cons_zero]
    exact hl _ _ _ _ _ _ hto hx
theorem Bld.nil (w : World) : Bld t s cells el lo Z (.slice none 0 0) ([] : List α) w := ⟨[], rfl, ⟨by simp, .inl ⟨rfl, rfl⟩⟩, fun i h => absurd h (Nat.not_lt_zero _)⟩
/-- read only -/
theorem Bld.view (hl : LocE el) (hs : ∀ x, (cells x).length = s) (h : Bld t s cells el lo Z v L w) {X : Nat → Prop} (hX : ∀ b, Z b → X b) (hv : ∀ b, v.ownBlock = some b → X b) : RW X w s cells (el X w) v L := by
  obtain ⟨B, h1, h2, h3⟩ := h
  obtain ⟨a, c, rfl⟩ := own_slice h2
  refine ⟨a, c, rfl, fun i hi => ?_⟩
  obtain ⟨g, cap, hv2, -, -⟩ := h2.form (by omega)
  simp only [Value.slice.injEq] at hv2
  obtain ⟨rfl, -, rfl⟩ := hv2
  refine ⟨g, 0, B[i]'(by omega), rfl, hv g rfl, ?_, hl _ _ _ _ _ _ (To.same fun b hb => hX b hb.1) (h3 i (by omega) hi)⟩
  rw [Nat.zero_add]
  exact own_range h2 h1 hs (by omega)
end
theorem loc0E : LocE e0 := loc0
theorem loc1E : LocE e1 := loc1
/-! a compound in its box -/
/-- D: the blocks at the round's start; Z0: what it may lead to besides new blocks -/
structure Ir {σ : Type} (e : El σ) (D : Nat) (wr0 : World) (b : Nat) (x : Cv) (c : Cp σ) (w : World) : Prop where
  bel : Below D wr0 w
  box : w.rangeAt b 0 x.cells
  thr : w.there b 0 6
  bD : D ≤ b
  ty : TyV (fun y => (b < y ∧ y < w.heap.size) ∧ some y ≠ x.vs.ownBlock) w x.tv c.tp
  lc : LcV (fun y => (b < y ∧ y < w.heap.size) ∧ some y ≠ x.vs.ownBlock) w x.vn c.nest
  sub : Bld 119 3 sbc e (b + 1) (fun y => b < y ∧ y < w.heap.size) x.vs c.subs w
  cb : x.cb = c.cb
  we : x.we = c.we
  lt : c.cb < 256
section
variable {σ : Type} {e : El σ} {D : Nat} {wr0 w w' : World} {b : Nat} {x : Cv} {c : Cp σ}
theorem Ir.bs (h : Ir e D wr0 b x c w) : b < w.heap.size := th_lt h.thr (by decide)
theorem Ir.keep (he : Loc e) (h : Ir e D wr0 b x c w) (hb : Below w.heap.size w w') : Ir e D wr0 b x c w' := by
  have hto : To (fun y => (b < y ∧ y < w.heap.size) ∧ some y ≠ x.vs.ownBlock) w (fun y => (b < y ∧ y < w'.heap.size) ∧ some y ≠ x.vs.ownBlock) w' := fun y hy => ⟨⟨⟨hy.1.1, Nat.lt_of_lt_of_le hy.1.2 hb.size⟩, hy.2⟩, hb.block y hy.1.2⟩
  exact ⟨h.bel.trans (hb.mono (Nat.le_trans h.bD (Nat.le_of_lt h.bs))), rg_keep hb h.box, th_keep hb h.thr, h.bD, h.ty.to hto, h.lc.to hto, h.sub.keep he hb (fun y hy => hy.2) (fun y hy => ⟨hy.1, Nat.lt_of_lt_of_le hy.2 hb.size⟩), h.cb, h.we, h.lt⟩
/-- a subclass selector is appended, the box gets the row -/
theorem Ir.push (he : Loc e) (h : Ir e D wr0 b x c w) {v' xv : Value} {a : σ} {B : List Value} (h1 : B.length = c.subs.length) (h3 : ∀ i (p : i < B.length) (q : i < c.subs.length), e (fun y => (b < y ∧ y < w.heap.size) ∧ some y ≠ x.vs.ownBlock) w B[i] c.subs[i])
    (hx : e (fun y => (b < y ∧ y < w.heap.size) ∧ some y ≠ x.vs.ownBlock) w xv a) (ho : w'.ownsRow (b + 1) 119 3 v' (c.subs.length + 1) (B.flatMap sbc ++ sbc xv)) (hg : w.grownBy w' x.vs.ownBlock) (hv : v'.ownBlock = x.vs.ownBlock ∨ ∀ y, v'.ownBlock = some y → w.heap.size ≤ y) :
    Ir e D wr0 b { x with vs := v' } { c with subs := c.subs ++ [a] } (w'.setCell ⟨b, 1, none⟩ v') := by
  have hbs := h.bs
  have hown : ∀ y, x.vs.ownBlock = some y → b < y ∧ y < w.heap.size := fun y hy => by have := h.sub.lt hy; omega
  have hbb : w'.heap[b]? = w.heap[b]? := hg.block b hbs (fun q => by have := hown b q.symm; omega)
  have hbox := rg_ag hbb h.box
  have hto : To (fun y => (b < y ∧ y < w.heap.size) ∧ some y ≠ x.vs.ownBlock) w (fun y => (b < y ∧ y < (w'.setCell ⟨b, 1, none⟩ v').heap.size) ∧ some y ≠ v'.ownBlock) (w'.setCell ⟨b, 1, none⟩ v') := fun y hy => by
    have hz := hg.size
    refine ⟨⟨⟨hy.1.1, by rw [size_set]; omega⟩, fun q => ?_⟩, by rw [heap_set (by omega)]; exact hg.block y hy.1.2 hy.2⟩
    rcases hv with hv | hv
    · exact hy.2 (by rw [← hv]; exact q)
    · have := hv y q.symm; omega
  have hpush : Bld 119 3 sbc e (b + 1) (fun y => b < y ∧ y < w'.heap.size) v' (c.subs ++ [a]) w' := Bld.push he h1 h3 (fun y hy => hy.2) (fun y hy => ⟨hy.1, by have := hg.size; omega⟩) hx ho hg hv
  refine ⟨?_, rg_set (k := 1) (n := 6) hbox (by show 1 < 6; decide), th_set (th_ag hbb h.thr), h.bD, h.ty.to hto, h.lc.to hto, ?_, h.cb, h.we, h.lt⟩
  · have hbD := h.bD
    have h7 : Below D w w' := ⟨hg.os, hg.tape, hg.output, hg.size, fun k hk => hg.block k (by omega) (fun q => by have := hown k q.symm; omega)⟩
    exact (h.bel.trans h7).setCell (by show D ≤ b; omega) _
  · exact hpush.to he (fun y hy => ⟨⟨hy.1, by rw [size_set]; exact hy.2⟩, heap_set (by omega)⟩) (fun y hy => heap_set (by
      rcases hv with hv | hv
      · have := hown y (by rw [← hv]; exact hy); omega
      · have := hv y hy; omega))
end
/-! an inner compound that is built: its blocks lie in [lo, hi) -/
structure Ib where
  x : Cv
  lo : Nat
  hi : Nat
def Ib.cells (y : Ib) : List Value := y.x.cells
def InB (y : Ib) (b : Nat) : Prop := y.lo ≤ b ∧ b < y.hi
def CpI (w : World) (y : Ib) (c : Cp ByteArray) : Prop :=
  TyV (fun b => InB y b ∧ some b ≠ y.x.vs.ownBlock) w y.x.tv c.tp ∧ LcV (fun b => InB y b ∧ some b ≠ y.x.vs.ownBlock) w y.x.vn c.nest ∧ Bld 119 3 sbc e0 y.lo (InB y) y.x.vs c.subs w ∧ (∀ b, y.x.vs.ownBlock = some b → InB y b) ∧ y.x.cb = c.cb ∧ y.x.we = c.we ∧ c.cb < 256 ∧ y.hi ≤ w.heap.size
theorem CpI.to {w w' : World} {y : Ib} {c : Cp ByteArray} (h : CpI w y c) (hb : ∀ b, InB y b → w'.heap[b]? = w.heap[b]?) (hs : w.heap.size ≤ w'.heap.size) : CpI w' y c := by
  obtain ⟨h1, h2, h3, h4, h5, h6, h7, h8⟩ := h
  have hto : To (fun b => InB y b ∧ some b ≠ y.x.vs.ownBlock) w (fun b => InB y b ∧ some b ≠ y.x.vs.ownBlock) w' := fun b hb' => ⟨hb', hb b hb'.1⟩
  exact ⟨h1.to hto, h2.to hto, h3.to loc0E (fun b hb' => ⟨hb', hb b hb'⟩) (fun b hb' => hb b (h4 b hb')), h4, h5, h6, h7, Nat.le_trans h8 hs⟩
theorem Ir.ib {D : Nat} {wr0 w : World} {b : Nat} {x : Cv} {c : Cp ByteArray} (h : Ir e0 D wr0 b x c w) : CpI w ⟨x, b, w.heap.size⟩ c := by
  have hto : To (fun y => (b < y ∧ y < w.heap.size) ∧ some y ≠ x.vs.ownBlock) w (fun y => InB ⟨x, b, w.heap.size⟩ y ∧ some y ≠ x.vs.ownBlock) w := To.same fun y hy => ⟨⟨Nat.le_of_lt hy.1.1, hy.1.2⟩, hy.2⟩
  obtain ⟨B, h1, h2, h3⟩ := h.sub
  refine ⟨h.ty.to hto, h.lc.to hto, ⟨B, h1, own_mono h2 (Nat.le_succ b), fun i p q => loc0 _ _ _ _ _ _ hto (h3 i p q)⟩, fun y hy => ?_, h.cb, h.we, h.lt, Nat.le_refl _⟩
  have := h.sub.lt hy
  exact ⟨by show b ≤ y; omega, this.2⟩
section
variable {σ : Type} {e : El σ} {D : Nat} {wr0 w w' : World} {b : Nat} {x : Cv} {c : Cp σ}
theorem Ir.set (he : Loc e) (h : Ir e D wr0 b x c w) {k : Nat} {v : Value} {x' : Cv} {c' : Cp σ} (hk : k < 6) (hx : x.cells.set k v = x'.cells) (hvs : x'.vs = x.vs) (hsub : c'.subs = c.subs)
    (ty : TyV (fun y => (b < y ∧ y < w.heap.size) ∧ some y ≠ x.vs.ownBlock) w x'.tv c'.tp) (lc : LcV (fun y => (b < y ∧ y < w.heap.size) ∧ some y ≠ x.vs.ownBlock) w x'.vn c'.nest) (hcb : x'.cb = c'.cb) (hwe : x'.we = c'.we) (hlt : c'.cb < 256) :
    Ir e D wr0 b x' c' (w.setCell ⟨b, k, none⟩ v) := by
  have hto : To (fun y => (b < y ∧ y < w.heap.size) ∧ some y ≠ x.vs.ownBlock) w (fun y => (b < y ∧ y < (w.setCell ⟨b, k, none⟩ v).heap.size) ∧ some y ≠ x'.vs.ownBlock) (w.setCell ⟨b, k, none⟩ v) := fun y hy => ⟨⟨⟨hy.1.1, by rw [size_set]; exact hy.1.2⟩, by rw [hvs]; exact hy.2⟩, heap_set (by omega)⟩
  refine ⟨h.bel.setCell (by show D ≤ b; exact h.bD) _, by rw [← hx]; exact rg_set (k := k) (n := 6) h.box hk, th_set h.thr, h.bD, ty.to hto, lc.to hto, ?_, hcb, hwe, hlt⟩
  rw [hvs, hsub]
  exact h.sub.to he (fun y hy => ⟨⟨hy.1, by rw [size_set]; exact hy.2⟩, heap_set (by omega)⟩) (fun y hy => heap_set (by have := h.sub.lt hy; omega))
theorem Ir.start (he : Loc e) (w : World) (t : TypeId) : Ir e w.heap.size w w.heap.size ⟨.pointer none, .slice none 0 0, .slice none 0 0, 0, false⟩ ⟨none, [], 0, 0, false⟩ (w.alloc (.cells (Cv.cells ⟨.pointer none, .slice none 0 0, .slice none 0 0, 0, false⟩).toArray t)) :=
  ⟨(Below.refl _ _).alloc (Nat.le_refl _) _, rg_new w _ t, th_new w _ t rfl, Nat.le_refl _, rfl, ⟨none, 0, rfl, fun i hi => absurd hi (Nat.not_lt_zero _)⟩, Bld.nil _, rfl, rfl, by show 0 < 256; omega⟩
end
/-- inner compounds under construction: the row at v; each in its range, the ranges in order, the row in none -/
def Ins (lo : Nat) (v : Value) (M : List (Cp ByteArray)) (ys : List Ib) (w : World) : Prop :=
  ys.length = M.length ∧ w.ownsRow lo 37 6 v M.length (ys.flatMap Ib.cells) ∧ ys.Pairwise (fun a b => a.hi ≤ b.lo) ∧ (∀ y ∈ ys, lo ≤ y.lo ∧ y.lo ≤ y.hi ∧ ∀ b, v.ownBlock = some b → ¬ InB y b) ∧ ∀ i (h : i < ys.length) (h' : i < M.length), CpI w ys[i] M[i]
theorem Ins.keep {lo : Nat} {v : Value} {M : List (Cp ByteArray)} {ys : List Ib} {w w' : World} (h : Ins lo v M ys w) (hb : Below w.heap.size w w') : Ins lo v M ys w' := by
  obtain ⟨h1, h2, h3, h4, h5⟩ := h
  exact ⟨h1, own_keep h2 hb, h3, h4, fun i p q => (h5 i p q).to (fun b hb' => hb.block b (Nat.lt_of_lt_of_le hb'.2 (h5 i p q).2.2.2.2.2.2.2)) hb.size⟩
theorem Ins.push {lo : Nat} {v v' : Value} {M : List (Cp ByteArray)} {ys : List Ib} {w w' : World} (h : Ins lo v M ys w) {y : Ib} {c : Cp ByteArray} (hy : CpI w y c) (hlo : lo ≤ y.lo) (hlh : y.lo ≤ y.hi) (hord : ∀ z ∈ ys, z.hi ≤ y.lo) (hrow : ∀ b, v.ownBlock = some b → ¬ InB y b)
    (ho : w'.ownsRow lo 37 6 v' (M.length + 1) (ys.flatMap Ib.cells ++ y.cells)) (hg : w.grownBy w' v.ownBlock) (hv : v'.ownBlock = v.ownBlock ∨ ∀ b, v'.ownBlock = some b → w.heap.size ≤ b) : Ins lo v' (M ++ [c]) (ys ++ [y]) w' := by
  obtain ⟨h1, h2, h3, h4, h5⟩ := h
  have hlt : ∀ z ∈ ys ++ [y], z.hi ≤ w.heap.size := fun z hz => by
    rcases List.mem_append.1 hz with hz | hz
    · obtain ⟨i, hi, rfl⟩ := List.mem_iff_getElem.1 hz
      exact (h5 i hi (by omega)).2.2.2.2.2.2.2
    · rw [List.mem_singleton.1 hz]; exact hy.2.2.2.2.2.2.2
  have hold : ∀ z ∈ ys ++ [y], ∀ b, v.ownBlock = some b → ¬ InB z b := fun z hz => by
    rcases List.mem_append.1 hz with hz | hz
    · exact (h4 z hz).2.2
    · rw [List.mem_singleton.1 hz]; exact hrow
  have hcp : ∀ z ∈ ys ++ [y], ∀ d, CpI w z d → CpI w' z d := fun z hz d hd => hd.to (fun b hb => hg.block b (Nat.lt_of_lt_of_le hb.2 (hlt z hz)) (fun q => hold z hz b q.symm hb)) hg.size
  refine ⟨by simp [h1], by rw [List.length_append, List.flatMap_append]; simpa using ho, List.pairwise_append.2 ⟨h3, by simp, fun a ha b hb => by rw [List.mem_singleton.1 hb]; exact hord a ha⟩, fun z hz => ⟨?_, ?_, fun b hb => ?_⟩, fun i p q => ?_⟩
  · rcases List.mem_append.1 hz with hz | hz
    · exact (h4 z hz).1
    · rw [List.mem_singleton.1 hz]; exact hlo
  · rcases List.mem_append.1 hz with hz | hz
    · exact (h4 z hz).2.1
    · rw [List.mem_singleton.1 hz]; exact hlh
  · rcases hv with hv | hv
    · exact hold z hz b (by rw [← hv]; exact hb)
    · exact fun hi => by have := hv b hb; have := hlt z hz; have := hi.2; omega
  · by_cases e : i < ys.length
    · rw [List.getElem_append_left e, List.getElem_append_left (by omega)]
      exact hcp _ (List.mem_append_left _ (List.getElem_mem e)) _ (h5 i e (by omega))
    · have : i = ys.length := by simp at p; omega
      subst this
      have e2 : (M ++ [c])[ys.length]'q = c := by rw [List.getElem_append_right (by omega)]; simp [h1]
      rw [e2, List.getElem_append_right (Nat.le_refl _)]
      simp only [Nat.sub_self, List.getElem_cons_zero]
      exact hcp _ (List.mem_append_right _ (List.mem_singleton.2 rfl)) _ hy
/-- the list of one complex selector that a wrap holds; all its blocks lie in [lo, hi) -/
def Wr (lo hi : Nat) (w : World) (v : Value) (M : List (Cp ByteArray)) : Prop :=
  ∃ q u ys, v = .slice (some ⟨q, 0, none⟩) 1 1 ∧ lo ≤ q ∧ q < hi ∧ w.rangeAt q 0 [u] ∧ Ins lo u M ys w ∧ (∀ y ∈ ys, y.hi ≤ q) ∧ (∀ b, u.ownBlock = some b → b < q) ∧ hi ≤ w.heap.size
end Go.Proofs.Ytbpnmiedomchpaa.Fg
