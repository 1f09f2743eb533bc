/-
  The selector as it is built.
-/
import Derived.Test.YtbpnmiedomchpaaFh
namespace Go.Proofs.Ytbpnmiedomchpaa.Fg
open Go.ChangeShapes Go.WideShapes Go.ChangeAt Go.RowKit Rg
set_option linter.unusedVariables false
set_option linter.unusedSimpArgs false
structure Sx where
  v : Value
  lo : Nat
  hi : Nat
def Sx.cells (y : Sx) : List Value := sbc y.v
def InX (y : Sx) (b : Nat) : Prop := y.lo ≤ b ∧ b < y.hi
structure Tc where
  x : Cv
  lo : Nat
  hi : Nat
  ys : List Sx
def Tc.cells (z : Tc) : List Value := z.x.cells
def InC (z : Tc) (b : Nat) : Prop := z.lo ≤ b ∧ b < z.hi
def OutC (z : Tc) (b : Nat) : Prop := InC z b ∧ ∀ y ∈ z.ys, ¬ InX y b
def OutR (z : Tc) (b : Nat) : Prop := OutC z b ∧ some b ≠ z.x.vs.ownBlock
/-- a compound as built: its subclass selectors lie in ranges, in order; all else outside of these -/
structure CpT (w : World) (z : Tc) (c : Cp Su) : Prop where
  len : z.ys.length = c.subs.length
  row : w.ownsRow z.lo 119 3 z.x.vs c.subs.length (z.ys.flatMap Sx.cells)
  pw : z.ys.Pairwise (fun a b => a.hi ≤ b.lo)
  rng : ∀ y ∈ z.ys, z.lo ≤ y.lo ∧ y.lo ≤ y.hi ∧ y.hi ≤ z.hi
  rown : ∀ b, z.x.vs.ownBlock = some b → OutC z b
  els : ∀ i (h : i < z.ys.length) (h' : i < c.subs.length), S1 z.ys[i].lo z.ys[i].hi w z.ys[i].v c.subs[i]
  ty : TyV (OutR z) w z.x.tv c.tp
  lc : LcV (OutR z) w z.x.vn c.nest
  cb : z.x.cb = c.cb
  we : z.x.we = c.we
  lt : c.cb < 256
  hi : z.hi ≤ w.heap.size
theorem CpT.wide {w w' : World} {x : Cv} {lo h1 h2 : Nat} {ys : List Sx} {c : Cp Su} (h : CpT w ⟨x, lo, h1, ys⟩ c) (hb : ∀ b, lo ≤ b → b < h1 → w'.heap[b]? = w.heap[b]?) (h12 : h1 ≤ h2) (hs : h2 ≤ w'.heap.size) (hs2 : w.heap.size ≤ w'.heap.size) : CpT w' ⟨x, lo, h2, ys⟩ c := by
  have hto0 : ∀ b, OutC ⟨x, lo, h1, ys⟩ b → OutC ⟨x, lo, h2, ys⟩ b := fun b hb' => ⟨⟨hb'.1.1, Nat.lt_of_lt_of_le hb'.1.2 h12⟩, hb'.2⟩
  have hto : To (OutR ⟨x, lo, h1, ys⟩) w (OutR ⟨x, lo, h2, ys⟩) w' := fun b hb' => ⟨⟨hto0 b hb'.1, hb'.2⟩, hb b hb'.1.1.1 hb'.1.1.2⟩
  exact ⟨h.len, own_ag h.row (fun g hg => hb g (h.rown g hg).1.1 (h.rown g hg).1.2), h.pw, fun y hy => ⟨(h.rng y hy).1, (h.rng y hy).2.1, Nat.le_trans (h.rng y hy).2.2 h12⟩, fun b hb' => hto0 b (h.rown b hb'),
    fun i p q => (h.els i p q).to (fun b p1 p2 => hb b (Nat.le_trans (h.rng _ (List.getElem_mem p)).1 p1) (Nat.lt_of_lt_of_le p2 (h.rng _ (List.getElem_mem p)).2.2)) hs2, h.ty.to hto, h.lc.to hto, h.cb, h.we, h.lt, hs⟩
theorem CpT.to {w w' : World} {z : Tc} {c : Cp Su} (h : CpT w z c) (hb : ∀ b, InC z b → w'.heap[b]? = w.heap[b]?) (hs : w.heap.size ≤ w'.heap.size) : CpT w' z c := by
  obtain ⟨x, lo, hi, ys⟩ := z
  exact h.wide (fun b p q => hb b ⟨p, q⟩) (Nat.le_refl _) (Nat.le_trans h.hi hs) hs
/-- a compound in its box -/
structure It (D : Nat) (wr0 : World) (b : Nat) (x : Cv) (c : Cp Su) (ys : List Sx) (w : World) : Prop where
  bel : Below D wr0 w
  box : w.rangeAt b 0 x.cells
  thr : w.there b 0 6
  bD : D ≤ b
  cp : CpT w ⟨x, b + 1, w.heap.size, ys⟩ c
section
variable {D : Nat} {wr0 w w' : World} {b : Nat} {x : Cv} {c : Cp Su} {ys : List Sx}
theorem It.bs (h : It D wr0 b x c ys w) : b < w.heap.size := th_lt h.thr (by decide)
theorem It.keep (h : It D wr0 b x c ys w) (hb : Below w.heap.size w w') : It D wr0 b x c ys w' :=
  ⟨h.bel.trans (hb.mono (Nat.le_trans h.bD (Nat.le_of_lt h.bs))), rg_keep hb h.box, th_keep hb h.thr, h.bD, h.cp.wide (fun y _ p => hb.block y p) hb.size (Nat.le_refl _) hb.size⟩
theorem Ir.it (h : Ir e1 D wr0 b x c w) (hn : c.subs = []) (hvs : x.vs = .slice none 0 0) : It D wr0 b x c [] w := by
  have hto : To (fun y => (b < y ∧ y < w.heap.size) ∧ some y ≠ x.vs.ownBlock) w (OutR ⟨x, b + 1, w.heap.size, []⟩) w := To.same fun y hy => ⟨⟨⟨hy.1.1, hy.1.2⟩, fun s hs => by cases hs⟩, hy.2⟩
  refine ⟨h.bel, h.box, h.thr, h.bD, ⟨by rw [hn]; rfl, ?_, by simp, (fun y hy => by cases hy), fun y hy => ?_, fun i p => absurd p (Nat.not_lt_zero _), h.ty.to hto, h.lc.to hto, h.cb, h.we, h.lt, Nat.le_refl _⟩⟩
  · rw [hn, hvs]
    exact ⟨by simp, .inl ⟨rfl, rfl⟩⟩
  · rw [hvs] at hy
    cases hy
theorem It.push {w6 w7 w8 : World} (h : It D wr0 b x c ys w) {v' xv : Value} {a : Su} (hS : S1 w.heap.size w6.heap.size w6 xv a) (hb6 : Below w.heap.size w w6) (h67 : Below w6.heap.size w6 w7)
    (ho : w8.ownsRow (b + 1) 119 3 v' (c.subs.length + 1) (ys.flatMap Sx.cells ++ sbc xv)) (hg : w7.grownBy w8 x.vs.ownBlock) (hv : v'.ownBlock = x.vs.ownBlock ∨ ∀ y, v'.ownBlock = some y → w7.heap.size ≤ y) :
    It D wr0 b { x with vs := v' } { c with subs := c.subs ++ [a] } (ys ++ [⟨xv, w.heap.size, w6.heap.size⟩]) (w8.setCell ⟨b, 1, none⟩ v') := by
  have hbs := h.bs
  have hz6 := hb6.size
  have hz7 := h67.size
  have hz8 := hg.size
  have hown : ∀ y, x.vs.ownBlock = some y → b < y ∧ y < w.heap.size := fun y hy => by
    have := (h.cp.rown y hy).1
    exact ⟨this.1, this.2⟩
  have hold7 : ∀ y, y < w.heap.size → w7.heap[y]? = w.heap[y]? := fun y hy => (h67.block y (by omega)).trans (hb6.block y hy)
  have hold : ∀ y, y < w.heap.size → y ≠ b → some y ≠ x.vs.ownBlock → (w8.setCell ⟨b, 1, none⟩ v').heap[y]? = w.heap[y]? := fun y hy hne hr => by
    rw [heap_set hne, hg.block y (by omega) hr]; exact hold7 y hy
  have hmid : ∀ y, w.heap.size ≤ y → y < w6.heap.size → (w8.setCell ⟨b, 1, none⟩ v').heap[y]? = w6.heap[y]? := fun y h1 h2 => by
    rw [heap_set (by omega), hg.block y (by omega) (fun q => by have := hown y q.symm; omega)]
    exact h67.block y h2
  have hbb : w8.heap[b]? = w.heap[b]? := (hg.block b (by omega) (fun q => by have := hown b q.symm; omega)).trans (hold7 b hbs)
  have hbD := h.bD
  have hnr : ∀ y, v'.ownBlock = some y → (some y = x.vs.ownBlock) ∨ w7.heap.size ≤ y := fun y hy => by
    rcases hv with hv | hv
    · exact .inl (by rw [← hv]; exact hy.symm)
    · exact .inr (hv y hy)
  have hout : ∀ y, OutC ⟨x, b + 1, w.heap.size, ys⟩ y → OutC ⟨{ x with vs := v' }, b + 1, (w8.setCell ⟨b, 1, none⟩ v').heap.size, ys ++ [⟨xv, w.heap.size, w6.heap.size⟩]⟩ y := fun y hy => by
    have h1 := hy.1.1
    have h2 := hy.1.2
    dsimp only at h1 h2
    refine ⟨⟨h1, by show y < (World.heap _).size; rw [size_set]; omega⟩, fun s hs => ?_⟩
    rcases List.mem_append.1 hs with hs | hs
    · exact hy.2 s hs
    · rw [List.mem_singleton.1 hs]
      exact fun q => by have := q.1; dsimp only at this; omega
  have hto : To (OutR ⟨x, b + 1, w.heap.size, ys⟩) w (OutR ⟨{ x with vs := v' }, b + 1, (w8.setCell ⟨b, 1, none⟩ v').heap.size, ys ++ [⟨xv, w.heap.size, w6.heap.size⟩]⟩) (w8.setCell ⟨b, 1, none⟩ v') := fun y hy => by
    have h1 := hy.1.1.1
    have h2 := hy.1.1.2
    dsimp only at h1 h2
    refine ⟨⟨hout y hy.1, fun q => ?_⟩, hold y h2 (by omega) hy.2⟩
    rcases hnr y q.symm with hr | hr
    · exact hy.2 hr
    · omega
  refine ⟨?_, rg_set (k := 1) (n := 6) (rg_ag hbb h.box) (by show 1 < 6; decide), th_set (th_ag hbb h.thr), hbD, ⟨?_, ?_, ?_, fun y hy => ?_, fun y hy => ?_, fun i p q => ?_, h.cp.ty.to hto, h.cp.lc.to hto, h.cp.cb, h.cp.we, h.cp.lt, Nat.le_refl _⟩⟩
  · have h7 : Below D w w8 := ⟨hg.os.trans (h67.os.trans hb6.os), hg.tape.trans (h67.tape.trans hb6.tape), hg.output.trans (h67.output.trans hb6.output), by omega, fun k hk => (hg.block k (by omega) (fun q => by have := hown k q.symm; omega)).trans (hold7 k (by omega))⟩
    exact (h.bel.trans h7).setCell (by show D ≤ b; omega) _
  · simp [h.cp.len]
  · have e : (ys ++ [(⟨xv, w.heap.size, w6.heap.size⟩ : Sx)]).flatMap Sx.cells = ys.flatMap Sx.cells ++ sbc xv := by rw [List.flatMap_append]; simp [Sx.cells]
    show World.ownsRow _ _ _ _ _ _ ((ys ++ [(⟨xv, w.heap.size, w6.heap.size⟩ : Sx)]).flatMap Sx.cells)
    rw [e, List.length_append]
    refine own_ag ho (fun y hy => heap_set (k := 1) (v := v') ?_)
    have := (ho.lt y hy).1
    omega
  · refine List.pairwise_append.2 ⟨h.cp.pw, by simp, fun s hs t ht => ?_⟩
    rw [List.mem_singleton.1 ht]
    exact (h.cp.rng s hs).2.2
  · rcases List.mem_append.1 hy with hy | hy
    · have := h.cp.rng y hy
      exact ⟨this.1, this.2.1, Nat.le_trans this.2.2 (by show w.heap.size ≤ (World.heap _).size; rw [size_set]; omega)⟩
    · rw [List.mem_singleton.1 hy]
      exact ⟨by show b + 1 ≤ w.heap.size; omega, hz6, by show w6.heap.size ≤ (World.heap _).size; rw [size_set]; omega⟩
  · rcases hnr y hy with hr | hr
    · exact hout y (h.cp.rown y hr.symm)
    · have hlt := (ho.lt y hy).2
      refine ⟨⟨by show b + 1 ≤ y; omega, by show y < (World.heap _).size; rw [size_set]; exact hlt⟩, fun s hs => ?_⟩
      rcases List.mem_append.1 hs with hs | hs
      · exact fun q => by have := (h.cp.rng s hs).2.2; have := q.2; dsimp only at *; omega
      · rw [List.mem_singleton.1 hs]
        exact fun q => by have := q.2; dsimp only at this; omega
  · dsimp only at p q ⊢
    by_cases e : i < ys.length
    · have hci : i < c.subs.length := by have := h.cp.len; dsimp only at this; omega
      have h5 := h.cp.els i e hci
      dsimp only at h5
      rw [List.getElem_append_left hci]
      simp only [List.getElem_append_left e]
      have hr := h.cp.rng _ (List.getElem_mem e)
      refine h5.to (fun y p1 p2 => hold y (by have := hr.2.2; dsimp only at this; omega) (by have := hr.1; dsimp only at this; omega) (fun q => ?_)) (by rw [size_set]; omega)
      exact (h.cp.rown y q.symm).2 _ (List.getElem_mem e) ⟨p1, p2⟩
    · have hi : i = ys.length := by simp at p; omega
      subst hi
      have hlen : ys.length = c.subs.length := h.cp.len
      have e1 : (ys ++ [(⟨xv, w.heap.size, w6.heap.size⟩ : Sx)])[ys.length]'p = ⟨xv, w.heap.size, w6.heap.size⟩ := by simp
      have e2 : (c.subs ++ [a])[ys.length]'q = a := by rw [List.getElem_append_right (by omega)]; simp [hlen]
      rw [e1, e2]
      exact hS.to (fun y p1 p2 => hmid y p1 p2) (by rw [size_set]; omega)
end
/-- the whole selector as built: the compounds' row at v -/
def SelT (lo : Nat) (v : Value) (M : List (Cp Su)) (zs : List Tc) (w : World) : Prop :=
  zs.length = M.length ∧ w.ownsRow lo 37 6 v M.length (zs.flatMap Tc.cells) ∧ zs.Pairwise (fun a b => a.hi ≤ b.lo) ∧ (∀ y ∈ zs, lo ≤ y.lo ∧ y.lo ≤ y.hi ∧ ∀ b, v.ownBlock = some b → ¬ InC y b) ∧ ∀ i (h : i < zs.length) (h' : i < M.length), CpT w zs[i] M[i]
theorem SelT.keep {lo : Nat} {v : Value} {M : List (Cp Su)} {ys : List Tc} {w w' : World} (h : SelT lo v M ys w) (hb : Below w.heap.size w w') : SelT lo v M ys w' := by
  obtain ⟨h1, h2, h3, h4, h5⟩ := h
  exact ⟨h1, own_keep h2 hb, h3, h4, fun i p q => (h5 i p q).to (fun b hb' => hb.block b (Nat.lt_of_lt_of_le hb'.2 (h5 i p q).hi)) hb.size⟩
theorem SelT.push {lo : Nat} {v v' : Value} {M : List (Cp Su)} {ys : List Tc} {w w' : World} (h : SelT lo v M ys w) {y : Tc} {c : Cp Su} (hy : CpT w y c) (hlo : lo ≤ y.lo) (hlh : y.lo ≤ y.hi) (hord : ∀ z ∈ ys, z.hi ≤ y.lo) (hrow : ∀ b, v.ownBlock = some b → ¬ InC y b)
    (ho : w'.ownsRow lo 37 6 v' (M.length + 1) (ys.flatMap Tc.cells ++ y.cells)) (hg : w.grownBy w' v.ownBlock) (hv : v'.ownBlock = v.ownBlock ∨ ∀ b, v'.ownBlock = some b → w.heap.size ≤ b) : SelT lo v' (M ++ [c]) (ys ++ [y]) w' := by
  obtain ⟨h1, h2, h3, h4, h5⟩ := h
  have hlt : ∀ z ∈ ys ++ [y], z.hi ≤ w.heap.size := fun z hz => by
    rcases List.mem_append.1 hz with hz | hz
    · obtain ⟨i, hi, rfl⟩ := List.mem_iff_getElem.1 hz
      exact (h5 i hi (by omega)).hi
    · rw [List.mem_singleton.1 hz]; exact hy.hi
  have hold : ∀ z ∈ ys ++ [y], ∀ b, v.ownBlock = some b → ¬ InC z b := fun z hz => by
    rcases List.mem_append.1 hz with hz | hz
    · exact (h4 z hz).2.2
    · rw [List.mem_singleton.1 hz]; exact hrow
  have hcp : ∀ z ∈ ys ++ [y], ∀ d, CpT w z d → CpT w' z d := fun z hz d hd => hd.to (fun b hb => hg.block b (Nat.lt_of_lt_of_le hb.2 (hlt z hz)) (fun q => hold z hz b q.symm hb)) hg.size
  refine ⟨by simp [h1], by rw [List.length_append, List.flatMap_append]; simpa using ho, List.pairwise_append.2 ⟨h3, by simp, fun a ha b hb => by rw [List.mem_singleton.1 hb]; exact hord a ha⟩, fun z hz => ⟨?_, ?_, fun b hb => ?_⟩, fun i p q => ?_⟩
  · rcases List.mem_append.1 hz with hz | hz
    · exact (h4 z hz).1
    · rw [List.mem_singleton.1 hz]; exact hlo
  · rcases List.mem_append.1 hz with hz | hz
    · exact (h4 z hz).2.1
    · rw [List.mem_singleton.1 hz]; exact hlh
  · rcases hv with hv | hv
    · exact hold z hz b (by rw [← hv]; exact hb)
    · exact fun hi => by have := hv b hb; have := hlt z hz; have := hi.2; omega
  · by_cases e : i < ys.length
    · rw [List.getElem_append_left e, List.getElem_append_left (by omega)]
      exact hcp _ (List.mem_append_left _ (List.getElem_mem e)) _ (h5 i e (by omega))
    · have : i = ys.length := by simp at p; omega
      subst this
      have e2 : (M ++ [c])[ys.length]'q = c := by rw [List.getElem_append_right (by omega)]; simp [h1]
      rw [e2, List.getElem_append_right (Nat.le_refl _)]
      simp only [Nat.sub_self, List.getElem_cons_zero]
      exact hcp _ (List.mem_append_right _ (List.mem_singleton.2 rfl)) _ hy
end Go.Proofs.Ytbpnmiedomchpaa.Fg
