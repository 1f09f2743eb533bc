/-
  What holds at the head of zzParseList's loop, and what each turn does to it.
-/
import Derived.Test.YtgdodkfbobhfoaaTq
import Derived.Maps.Range
namespace Go.Proofs.Ytgdodkfbobhfoaa.Tr
open Go.ChangeShapes Go.WideShapes Go.ChangeAt Go.RowKit Rg
set_option linter.unusedVariables false
/-- rows vL, vC, vS under construction in world w; the cursor p stands at q; what was read up to k is counted -/
def ST (ov : Value) (Z : Nat → Int) (p i0 M k q : Nat) (vL vC vS : Value) (w0 w : World) : Prop :=
  ∃ (X : Nat → Prop) (nL cL nC cC nS cS : Nat) (xL xC xS : List Value), P2 w X w0.heap.size vL nL cL xL ∧ P1 w X w0.heap.size vC nC cC xC ∧ P0 w X w0.heap.size vS nS cS xS ∧ cL + cC + cS + cntF Z i0 = cntF Z k ∧ (nL ≤ M ∧ nC ≤ M ∧ nS ≤ M) ∧
    (∀ g, X g → w0.heap.size ≤ g ∧ g < w.heap.size) ∧ w0.grownBy w (some p) ∧ Bk w p 29 #[ov, .int .i64 q] ∧ p < w0.heap.size
theorem own_slice {w : World} {B : Nat} {e : TypeId} {s n : Nat} {v : Value} {xs : List Value} (h : w.ownsRow B e s v n xs) : ∃ a m c, v = .slice a m c := by
  rcases h.2 with ⟨rfl, _⟩ | ⟨g, cap, cur, rfl, _⟩ <;> exact ⟨_, _, _, rfl⟩
section
variable {ov : Value} {Z : Nat → Int} {p i0 M k q : Nat} {vL vC vS : Value} {w0 w : World}
theorem ST.forms (h : ST ov Z p i0 M k q vL vC vS w0 w) : (∃ a m c, vL = .slice a m c) ∧ (∃ a m c, vC = .slice a m c) ∧ ∃ a m c, vS = .slice a m c := by
  obtain ⟨X, nL, cL, nC, cC, nS, cS, xL, xC, xS, ⟨_, _, _, h1, _⟩, ⟨_, _, _, h2, _⟩, ⟨_, _, _, _, _, _, h3, _⟩, _⟩ := h
  exact ⟨own_slice h1, own_slice h2, own_slice h3⟩
theorem ST.size (h : ST ov Z p i0 M k q vL vC vS w0 w) : w0.heap.size ≤ w.heap.size := by
  obtain ⟨X, nL, cL, nC, cC, nS, cS, xL, xC, xS, _, _, _, _, _, _, h, _⟩ := h
  exact h.size
/-- another world in which all blocks but p are as they were -/
theorem ST.move {w' : World} {q' : Nat} (h : ST ov Z p i0 M k q vL vC vS w0 w) (hg : w.grownBy w' (some p)) (hb : Bk w' p 29 #[ov, .int .i64 q']) : ST ov Z p i0 M k q' vL vC vS w0 w' := by
  obtain ⟨X, nL, cL, nC, cC, nS, cS, xL, xC, xS, h1, h2, h3, h4, h5, h6, h7, h8, h9⟩ := h
  have hX : ∀ g, X g → w'.heap[g]? = w.heap[g]? := fun g hx => hg.block g (h6 g hx).2 (by have := (h6 g hx).1; simp; omega)
  have hv : ∀ {e : TypeId} {s n : Nat} {v : Value} {xs : List Value}, w.ownsRow w0.heap.size e s v n xs → ∀ g, v.ownBlock = some g → w'.heap[g]? = w.heap[g]? := fun ho g hgv => hg.block g (ho.lt g hgv).2 (by have := (ho.lt g hgv).1; simp; omega)
  refine ⟨X, nL, cL, nC, cC, nS, cS, xL, xC, xS, h1.keep hX ?_, h2.keep hX ?_, h3.keep hX ?_, h4, h5, fun g hx => ⟨(h6 g hx).1, Nat.lt_of_lt_of_le (h6 g hx).2 hg.size⟩, h7.trans hg, hb, h9⟩
  · obtain ⟨_, _, _, ho, _⟩ := h1; exact hv ho
  · obtain ⟨_, _, _, ho, _⟩ := h2; exact hv ho
  · obtain ⟨_, _, _, _, _, _, ho, _⟩ := h3; exact hv ho
theorem ST.keep {w' : World} (h : ST ov Z p i0 M k q vL vC vS w0 w) (hb : Below w.heap.size w w') : ST ov Z p i0 M k q vL vC vS w0 w' := by
  have hp : Bk w p 29 #[ov, .int .i64 q] := by obtain ⟨X, nL, cL, nC, cC, nS, cS, xL, xC, xS, _, _, _, _, _, _, _, h8, _⟩ := h; exact h8
  exact h.move (grown_below hb _) (hp.keep hb)
theorem ST.cur (h : ST ov Z p i0 M k q vL vC vS w0 w) : Bk w p 29 #[ov, .int .i64 q] := by
  obtain ⟨X, nL, cL, nC, cC, nS, cS, xL, xC, xS, _, _, _, _, _, _, _, h8, _⟩ := h; exact h8
theorem ST.tick (h : ST ov Z p i0 M k q vL vC vS w0 w) (q' : Nat) : ST ov Z p i0 M k q' vL vC vS w0 (w.setCell ⟨p, 1, none⟩ (.int .i64 q')) := by
  refine h.move ⟨rfl, rfl, rfl, by simp [World.setCell], fun g _ hne => heap_setCell_other w _ g _ (fun e => hne (by rw [e]))⟩ ?_
  exact h.cur.set_ 1 _
/-- a step that counts nothing -/
theorem ST.skip (h : ST ov Z p i0 M k q vL vC vS w0 w) (hz : ¬ Z k % 5 ≤ 1) : ST ov Z p i0 M (k + 1) q vL vC vS w0 w := by
  obtain ⟨X, nL, cL, nC, cC, nS, cS, xL, xC, xS, h1, h2, h3, h4, h5⟩ := h
  exact ⟨X, nL, cL, nC, cC, nS, cS, xL, xC, xS, h1, h2, h3, by rw [cntF, if_neg hz]; omega, h5⟩
/-- the row of simple selectors gets a leaf -/
theorem ST.leaf (h : ST ov Z p i0 M k q vL vC vS w0 w) (hz : Z k % 5 ≤ 1) : ∃ nS xS, nS ≤ M ∧ w.ownsRow w0.heap.size 41 3 vS nS xS ∧
    ∀ w2 v2 h0, w.grownBy w2 vS.ownBlock → w2.ownsRow w0.heap.size 41 3 v2 (nS + 1) (xS ++ subc (leafD h0)) → (v2.ownBlock = vS.ownBlock ∨ ∃ b, v2.ownBlock = some b ∧ w.heap.size ≤ b) → ST ov Z p i0 (M + 1) (k + 1) q vL vC v2 w0 w2 := by
  obtain ⟨X, nL, cL, nC, cC, nS, cS, xL, xC, xS, h1, h2, h3, h4, h5, h6, h7, h8, h9⟩ := h
  have hoS : w.ownsRow w0.heap.size 41 3 vS nS xS := by obtain ⟨_, _, _, _, _, _, ho, _⟩ := h3; exact ho
  refine ⟨nS, xS, h5.2.2, hoS, fun w2 v2 h0 hg ho hat => ?_⟩
  have hnS : ∀ g, vS.ownBlock = some g → ¬ X g := by obtain ⟨_, _, _, _, _, _, _, _, _, _, _, hn⟩ := h3; exact hn
  have hX : ∀ g, X g → w2.heap[g]? = w.heap[g]? := fun g hx => hg.block g (h6 g hx).2 (fun e => hnS g e.symm hx)
  refine ⟨X, nL, cL, nC, cC, nS + 1, _, xL, xC, _, h1.keep hX ?_, h2.keep hX ?_, h3.push (b0 := false) (h0 := h0) (v0 := .nilIface) (c0 := 0) (fun g hx => (h6 g hx).2) hg ho hat rfl (fun e => by simp at e) (fun e => by simp at e), ?_, by omega, fun g hx => ⟨(h6 g hx).1, Nat.lt_of_lt_of_le (h6 g hx).2 hg.size⟩, h7.andThen hg (fun j hj => .inl (hoS.lt j hj).1), h8.grown hg (h8.ne_row hoS (by decide)), h9⟩
  · obtain ⟨_, _, _, hoL, _⟩ := h1
    exact fun g hgv => hg.block g (hoL.lt g hgv).2 (fun e => own_ne hoL hoS (by decide) hgv e.symm)
  · obtain ⟨_, _, _, hoC, _⟩ := h2
    exact fun g hgv => hg.block g (hoC.lt g hgv).2 (fun e => own_ne hoC hoS (by decide) hgv e.symm)
  · rw [cntF, if_pos hz]
    simp
    omega
/-- the row of simple selectors gets a list -/
theorem ST.nest {Xc : Nat → Prop} {v0 : Value} {c0 h0 k2 : Nat} {w1 : World} (h : ST ov Z p i0 M k q vL vC vS w0 w) (hz : Z k % 5 ≤ 1) (hb : Below w.heap.size w w1) (hcc : c0 + cntF Z (k + 1) = cntF Z k2) (ht : TT w Xc 2 v0 c0) (hXc : ∀ g, Xc g → w0.heap.size ≤ g ∧ g < w.heap.size)
    (hL : ∀ g, (vL.ownBlock = some g ∨ vC.ownBlock = some g ∨ vS.ownBlock = some g) → ¬ Xc g) (hh : w.heap.size ≤ h0 ∧ h0 < w1.heap.size) (hc : w1.cell? ⟨h0, 0, none⟩ = some v0) :
    ∃ nS xS, nS ≤ M ∧ w1.ownsRow w0.heap.size 41 3 vS nS xS ∧
    ∀ w2 v2, w1.grownBy w2 vS.ownBlock → w2.ownsRow w0.heap.size 41 3 v2 (nS + 1) (xS ++ subc (nestD h0)) → (v2.ownBlock = vS.ownBlock ∨ ∃ b, v2.ownBlock = some b ∧ w1.heap.size ≤ b) → ST ov Z p i0 (M + 1) k2 q vL vC v2 w0 w2 := by
  have hcur := h.cur.keep hb
  have hsz := h.size
  have h' := h.keep hb
  obtain ⟨X, nL, cL, nC, cC, nS, cS, xL, xC, xS, g1, g2, g3, g4, g5, g6, g7, g8, g9⟩ := h
  have hX0 : ∀ g, X g → w1.heap[g]? = w.heap[g]? := fun g hx => hb.block g (g6 g hx).2
  have hXc0 : ∀ g, Xc g → w1.heap[g]? = w.heap[g]? := fun g hx => hb.block g (hXc g hx).2
  have oL := own_keep (by obtain ⟨_, _, _, ho, _⟩ := g1; exact ho) hb
  have oC := own_keep (by obtain ⟨_, _, _, ho, _⟩ := g2; exact ho) hb
  have oS := own_keep (by obtain ⟨_, _, _, _, _, _, ho, _⟩ := g3; exact ho) hb
  have lL : ∀ g, vL.ownBlock = some g → g < w.heap.size := by obtain ⟨_, _, _, ho, _⟩ := g1; exact fun g e => (ho.lt g e).2
  have lC : ∀ g, vC.ownBlock = some g → g < w.heap.size := by obtain ⟨_, _, _, ho, _⟩ := g2; exact fun g e => (ho.lt g e).2
  have lS : ∀ g, vS.ownBlock = some g → g < w.heap.size := by obtain ⟨_, _, _, _, _, _, ho, _⟩ := g3; exact fun g e => (ho.lt g e).2
  -- all that is kept: X, the callee's blocks, the new block
  have hY : ∀ g, (X g ∨ Xc g ∨ g = h0) → w0.heap.size ≤ g ∧ g < w1.heap.size := by
    rintro g (hx | hx | rfl)
    · exact ⟨(g6 g hx).1, Nat.lt_of_lt_of_le (g6 g hx).2 hb.size⟩
    · exact ⟨(hXc g hx).1, Nat.lt_of_lt_of_le (hXc g hx).2 hb.size⟩
    · exact ⟨Nat.le_trans hsz hh.1, hh.2⟩
  have p1 := (g1.keep hX0 (fun g e => hb.block g (lL g e))).more (Y := fun g => X g ∨ Xc g ∨ g = h0) (fun g hx => .inl hx) (by
    rintro g e (hx | hx | rfl)
    · obtain ⟨_, _, _, _, _, _, hn⟩ := g1; exact hn g e hx
    · exact hL g (.inl e) hx
    · have := lL g e; omega)
  have p2 := (g2.keep hX0 (fun g e => hb.block g (lC g e))).more (Y := fun g => X g ∨ Xc g ∨ g = h0) (fun g hx => .inl hx) (by
    rintro g e (hx | hx | rfl)
    · obtain ⟨_, _, _, _, _, _, hn⟩ := g2; exact hn g e hx
    · exact hL g (.inr (.inl e)) hx
    · have := lC g e; omega)
  have nS' : ∀ g, vS.ownBlock = some g → ¬ (X g ∨ Xc g ∨ g = h0) := by
    rintro g e (hx | hx | rfl)
    · obtain ⟨_, _, _, _, _, _, _, _, _, _, _, hn⟩ := g3; exact hn g e hx
    · exact hL g (.inr (.inr e)) hx
    · have := lS g e; omega
  have p3 := (g3.keep hX0 (fun g e => hb.block g (lS g e))).more (Y := fun g => X g ∨ Xc g ∨ g = h0) (fun g hx => .inl hx) nS'
  refine ⟨nS, xS, g5.2.2, oS, fun w2 v2 hg ho hat => ?_⟩
  have hX : ∀ g, (X g ∨ Xc g ∨ g = h0) → w2.heap[g]? = w1.heap[g]? := fun g hx => hg.block g (hY g hx).2 (fun e => nS' g e.symm hx)
  refine ⟨fun g => X g ∨ Xc g ∨ g = h0, nL, cL, nC, cC, nS + 1, _, xL, xC, _, p1.keep hX ?_, p2.keep hX ?_, p3.push (b0 := true) (h0 := h0) (v0 := v0) (c0 := c0) (fun g hx => (hY g hx).2) hg ho hat rfl (fun _ => ⟨.inr (.inr rfl), by rw [World.cell?_of_block (a := ⟨h0, 0, none⟩) (hX h0 (.inr (.inr rfl)))]; exact hc⟩) (fun _ => (ht.keep hXc0).more (fun g hx => .inr (.inl hx))), ?_, by omega, fun g hx => ⟨(hY g hx).1, Nat.lt_of_lt_of_le (hY g hx).2 hg.size⟩, (g7.trans (grown_below hb _)).andThen hg (fun j hj => .inl (oS.lt j hj).1), hcur.grown hg (hcur.ne_row oS (by decide)), g9⟩
  · exact fun g hgv => hg.block g (oL.lt g hgv).2 (fun e => own_ne oL oS (by decide) hgv e.symm)
  · exact fun g hgv => hg.block g (oC.lt g hgv).2 (fun e => own_ne oC oS (by decide) hgv e.symm)
  · have : cntF Z (k + 1) = cntF Z k + 1 := by rw [cntF, if_pos hz]
    simp
    omega
/-- the row of compounds gets one; the simple selectors begin anew -/
theorem ST.comp (h : ST ov Z p i0 M k q vL vC vS w0 w) (hM : (M : Int) ≤ 1000000) : ∃ nC xC, nC ≤ M ∧ w.ownsRow w0.heap.size 49 6 vC nC xC ∧
    ∀ w2 v2, w.grownBy w2 vC.ownBlock → w2.ownsRow w0.heap.size 49 6 v2 (nC + 1) (xC ++ compc vS) → (v2.ownBlock = vC.ownBlock ∨ ∃ b, v2.ownBlock = some b ∧ w.heap.size ≤ b) → ST ov Z p i0 (M + 1) k q vL v2 (.slice none 0 0) w0 w2 := by
  obtain ⟨X, nL, cL, nC, cC, nS, cS, xL, xC, xS, h1, h2, h3, h4, h5, h6, h7, h8, h9⟩ := h
  have oL : w.ownsRow w0.heap.size 51 1 vL nL xL := by obtain ⟨_, _, _, ho, _⟩ := h1; exact ho
  have oC : w.ownsRow w0.heap.size 49 6 vC nC xC := by obtain ⟨_, _, _, ho, _⟩ := h2; exact ho
  have oS : w.ownsRow w0.heap.size 41 3 vS nS xS := by obtain ⟨_, _, _, _, _, _, ho, _⟩ := h3; exact ho
  have kL : ∀ g, vL.ownBlock = some g → ¬ Ad X vS g := by
    rintro g e (hx | hx)
    · obtain ⟨_, _, _, _, _, _, hn⟩ := h1; exact hn g e hx
    · exact own_ne oL oS (by decide) e hx
  have kC : ∀ g, vC.ownBlock = some g → ¬ Ad X vS g := by
    rintro g e (hx | hx)
    · obtain ⟨_, _, _, _, _, _, hn⟩ := h2; exact hn g e hx
    · exact own_ne oC oS (by decide) e hx
  have hY : ∀ g, Ad X vS g → w0.heap.size ≤ g ∧ g < w.heap.size := by
    rintro g (hx | hx)
    · exact h6 g hx
    · exact oS.lt g hx
  have p1 := h1.more (Y := Ad X vS) (fun g hx => .inl hx) kL
  have p2 := h2.more (Y := Ad X vS) (fun g hx => .inl hx) kC
  refine ⟨nC, xC, h5.2.1, oC, fun w2 v2 hg ho hat => ?_⟩
  have hX : ∀ g, Ad X vS g → w2.heap[g]? = w.heap[g]? := fun g hx => hg.block g (hY g hx).2 (fun e => kC g e.symm hx)
  refine ⟨Ad X vS, nL, cL, nC + 1, _, 0, 0, xL, _, [], p1.keep hX ?_, p2.push (fun g hx => (hY g hx).2) hg ho hat (h3.tree (by omega)), P0.nil _ _ _, by omega, by omega, fun g hx => ⟨(hY g hx).1, Nat.lt_of_lt_of_le (hY g hx).2 hg.size⟩, h7.andThen hg (fun j hj => .inl (oC.lt j hj).1), h8.grown hg (h8.ne_row oC (by decide)), h9⟩
  exact fun g hgv => hg.block g (oL.lt g hgv).2 (fun e => own_ne oL oC (by decide) hgv e.symm)
/-- the list gets one; the compounds begin anew -/
theorem ST.cmpl (h : ST ov Z p i0 M k q vL vC (.slice none 0 0) w0 w) (hM : (M : Int) ≤ 1000000) : ∃ nL xL, nL ≤ M ∧ w.ownsRow w0.heap.size 51 1 vL nL xL ∧
    ∀ w2 v2, w.grownBy w2 vL.ownBlock → w2.ownsRow w0.heap.size 51 1 v2 (nL + 1) (xL ++ [vC]) → (v2.ownBlock = vL.ownBlock ∨ ∃ b, v2.ownBlock = some b ∧ w.heap.size ≤ b) → ST ov Z p i0 (M + 1) k q v2 (.slice none 0 0) (.slice none 0 0) w0 w2 := by
  obtain ⟨X, nL, cL, nC, cC, nS, cS, xL, xC, xS, h1, h2, h3, h4, h5, h6, h7, h8, h9⟩ := h
  have oL : w.ownsRow w0.heap.size 51 1 vL nL xL := by obtain ⟨_, _, _, ho, _⟩ := h1; exact ho
  have oC : w.ownsRow w0.heap.size 49 6 vC nC xC := by obtain ⟨_, _, _, ho, _⟩ := h2; exact ho
  have hcS : cS = 0 := by
    obtain ⟨_, _, _, _, _, _, ho, _, _, _, hc, _⟩ := h3
    rcases ho.2 with ⟨_, rfl⟩ | ⟨g, cap, cur, e, _⟩
    · exact hc
    · simp at e
  have kL : ∀ g, vL.ownBlock = some g → ¬ Ad X vC g := by
    rintro g e (hx | hx)
    · obtain ⟨_, _, _, _, _, _, hn⟩ := h1; exact hn g e hx
    · exact own_ne oL oC (by decide) e hx
  have hY : ∀ g, Ad X vC g → w0.heap.size ≤ g ∧ g < w.heap.size := by
    rintro g (hx | hx)
    · exact h6 g hx
    · exact oC.lt g hx
  have p1 := h1.more (Y := Ad X vC) (fun g hx => .inl hx) kL
  refine ⟨nL, xL, h5.1, oL, fun w2 v2 hg ho hat => ?_⟩
  refine ⟨Ad X vC, nL + 1, _, 0, 0, 0, 0, _, [], [], p1.push (fun g hx => (hY g hx).2) hg ho hat (h2.tree (by omega)), P1.nil _ _ _, P0.nil _ _ _, by omega, by omega, fun g hx => ⟨(hY g hx).1, Nat.lt_of_lt_of_le (hY g hx).2 hg.size⟩, h7.andThen hg (fun j hj => .inl (oL.lt j hj).1), h8.grown hg (h8.ne_row oL (by decide)), h9⟩
/-- the end: the list is a tree -/
theorem ST.done (h : ST ov Z p i0 M k q vL (.slice none 0 0) (.slice none 0 0) w0 w) (hM : (M : Int) ≤ 1000000) : ∃ c X, TT w X 2 vL c ∧ c + cntF Z i0 = cntF Z k ∧ (∀ g, X g → w0.heap.size ≤ g ∧ g < w.heap.size) ∧ w0.grownBy w (some p) ∧ Bk w p 29 #[ov, .int .i64 q] := by
  obtain ⟨X, nL, cL, nC, cC, nS, cS, xL, xC, xS, h1, h2, h3, h4, h5, h6, h7, h8, h9⟩ := h
  have hcS : cS = 0 := by
    obtain ⟨_, _, _, _, _, _, ho, _, _, _, hc, _⟩ := h3
    rcases ho.2 with ⟨_, rfl⟩ | ⟨g, cap, cur, e, _⟩
    · exact hc
    · simp at e
  have hcC : cC = 0 := by
    obtain ⟨_, _, _, ho, _, hc, _⟩ := h2
    rcases ho.2 with ⟨_, rfl⟩ | ⟨g, cap, cur, e, _⟩
    · exact hc
    · simp at e
  have oL : w.ownsRow w0.heap.size 51 1 vL nL xL := by obtain ⟨_, _, _, ho, _⟩ := h1; exact ho
  refine ⟨cL, Ad X vL, h1.tree (by omega), by omega, ?_, h7, h8⟩
  rintro g (hx | hx)
  · exact h6 g hx
  · exact oL.lt g hx
end
end Go.Proofs.Ytgdodkfbobhfoaa.Tr
