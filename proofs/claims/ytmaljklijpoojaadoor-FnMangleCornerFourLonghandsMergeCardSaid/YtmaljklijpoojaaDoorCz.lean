/-
  The state of the law of four longhands.
-/
import Derived.Test.YtmaljklijpoojaaDoorCy
namespace Go.Proofs.YtmaljklijpoojaaDoor.Co
open Go.ChangeShapes Go.WideShapes Go.ChangeAt Go.RowKit Rg Quad
set_option linter.unusedVariables false
set_option linter.unusedSimpArgs false
/-- the tracker's codes behind k rounds -/
def QK (A B : Nat → Int) : Nat → QQ
  | 0 => fun _ => none
  | k + 1 => nQ (QK A B k) k (A k) (B k)
section
variable {A B : Nat → Int}
theorem qk_none : ∀ k j, k ≤ j → QK A B k j = none
  | 0, _, _ => rfl
  | k + 1, j, h => by
    unfold QK nQ
    split
    · unfold upQ
      rw [if_neg (by omega)]
      exact qk_none k j (by omega)
    · rfl
theorem qk_mrg {k : Nat} (h : mrg (QK A B k)) : 4 ≤ k := by
  refine Classical.byContradiction fun hn => ?_
  obtain ⟨a, b, e, _⟩ := h 3 (by omega)
  rw [qk_none k 3 (by omega)] at e
  cases e
theorem qk_ok (h0 : ∀ i, 0 ≤ A i ∧ 0 ≤ B i) : ∀ k, okQ (QK A B k)
  | 0 => fun i _ a b e => by cases e
  | k + 1 => fun i hi a b e => by
    unfold QK nQ at e
    split at e
    · rename_i hnum
      unfold upQ at e
      by_cases h : i = k
      · rw [if_pos h] at e
        injection e with e
        injection e with e1 e2
        subst e1
        subst e2
        exact ⟨⟨(h0 k).1, hnum.1⟩, (h0 k).2, hnum.2⟩
      · rw [if_neg h] at e
        exact qk_ok h0 k i hi a b e
    · cases e
theorem qk_all : ∀ k, (∀ j, j < k → ∃ y, QK A B k j = some y) → ∀ j, j < k → QK A B k j = some (A j, B j)
  | 0, _, j, hj => absurd hj (by omega)
  | k + 1, h, j, hj => by
    have hn : A k ≤ 5 ∧ B k ≤ 5 := by
      refine Classical.byContradiction fun hn => ?_
      obtain ⟨y, e⟩ := h k (by omega)
      unfold QK nQ at e
      rw [if_neg hn] at e
      cases e
    have e : QK A B (k + 1) = upQ (QK A B k) k (A k, B k) := by
      show nQ (QK A B k) k (A k) (B k) = _
      unfold nQ
      rw [if_pos hn]
    rw [e] at h ⊢
    unfold upQ at h ⊢
    by_cases hjk : j = k
    · rw [if_pos hjk, hjk]
    · rw [if_neg hjk]
      refine qk_all k (fun i hi => ?_) j (by omega)
      obtain ⟨y, hy⟩ := h i (by omega)
      rw [if_neg (by omega)] at hy
      exact ⟨y, hy⟩
theorem qk_num : ∀ k, (∀ j, j < k → A j ≤ 5 ∧ B j ≤ 5) → ∀ j, j < k → QK A B k j = some (A j, B j)
  | 0, _, j, hj => absurd hj (by omega)
  | k + 1, h, j, hj => by
    have e : QK A B (k + 1) = upQ (QK A B k) k (A k, B k) := by
      show nQ (QK A B k) k (A k) (B k) = _
      unfold nQ
      rw [if_pos (h k (by omega))]
    rw [e]
    unfold upQ
    by_cases hjk : j = k
    · rw [if_pos hjk, hjk]
    · rw [if_neg hjk]
      exact qk_num k (fun i hi => h i (by omega)) j (by omega)
theorem qk_val (h : mrg (QK A B 4)) : ∀ i, i < 4 → QK A B 4 i = some (A i, B i) := qk_all 4 fun j hj => by
  obtain ⟨a, b, e, _⟩ := h j hj
  exact ⟨_, e⟩
theorem qk_iff : mrg (QK A B 4) ↔ ∀ i, i < 4 → A i ≤ 4 ∧ B i ≤ 4 := by
  refine ⟨fun h i hi => ?_, fun h i hi => ?_⟩
  · have e := qk_val h i hi
    obtain ⟨a, b, e2, ha, hb⟩ := h i hi
    rw [e] at e2
    injection e2 with e2
    injection e2 with e3 e4
    subst e3
    subst e4
    exact ⟨ha, hb⟩
  · exact ⟨A i, B i, qk_num 4 (fun j hj => by have := h j hj; omega) i hi, h i hi⟩
theorem qk_qa (h : mrg (QK A B 4)) {i : Nat} (hi : i < 4) : qa (QK A B 4) i = A i ∧ qb (QK A B 4) i = B i := by
  unfold qa qb
  rw [qk_val h i hi]
  exact ⟨rfl, rfl⟩
end
theorem a4_congr {p q : Nat → Int} (h : ∀ i, i < 4 → p i = q i) : a4 p = a4 q := by
  unfold a4
  rw [h 0 (by omega), h 1 (by omega), h 2 (by omega), h 3 (by omega)]
/-- the law's constants -/
structure LB where
  b6 : Nat
  b7 : Nat
  b8 : Nat
  b9 : Nat
  gD : Nat
  r : Nat
  t : Nat
  Bs : Nat
  f : Nat → Int
  s : Nat → Int
  lc : Nat → Int
  pr : Nat → Bool
  imp : Bool
  w0 : World
def LB.ok (c : LB) : Prop := (c.b6 < c.Bs ∧ c.b7 < c.Bs ∧ c.b8 < c.Bs ∧ c.b9 < c.Bs ∧ c.gD < c.Bs ∧ c.r < c.Bs ∧ c.t < c.Bs) ∧ (c.w0.heap.size ≤ c.gD ∧ c.w0.heap.size ≤ c.r ∧ c.w0.heap.size ≤ c.t) ∧
  (c.gD ≠ c.r ∧ c.gD ≠ c.t ∧ c.r ≠ c.t) ∧ (c.b6 ≠ c.gD ∧ c.b6 ≠ c.r ∧ c.b6 ≠ c.t) ∧ (c.b7 ≠ c.gD ∧ c.b7 ≠ c.r ∧ c.b7 ≠ c.t) ∧ (c.b8 ≠ c.gD ∧ c.b8 ≠ c.r ∧ c.b8 ≠ c.t) ∧ (c.b9 ≠ c.gD ∧ c.b9 ≠ c.r ∧ c.b9 ≠ c.t)
def LB.A (c : LB) (j : Nat) : Int := c.f j % 8
def LB.B (c : LB) (j : Nat) : Int := if c.pr j then c.s j % 8 else c.f j % 8
def nn (p : Bool) : Nat := if p then 2 else 1
def LB.Q (c : LB) (k : Nat) : QQ := QK c.A c.B k
def LB.R (c : LB) (D : Nat → Nat) (k j : Nat) : RU := if j < k then (some (D j), c.lc j) else (none, 0)
def LB.im (c : LB) (k : Nat) : Bool := if k = 0 then false else c.imp
/-- the arguments' boxes -/
def BX4 (c : LB) (w : World) : Prop := (∀ j, j < 4 → w.cell? ⟨c.b6, j, none⟩ = some (.int .u8 (c.f j))) ∧ (∀ j, j < 4 → w.cell? ⟨c.b7, j, none⟩ = some (.int .u8 (c.s j))) ∧ (∀ j, j < 4 → w.cell? ⟨c.b8, j, none⟩ = some (.bool (c.pr j))) ∧ (∀ j, j < 4 → w.cell? ⟨c.b9, j, none⟩ = some (.int .i32 (c.lc j)))
theorem BX4.keep {c : LB} {w w' : World} (h : BX4 c w) (hb : Below w.heap.size w w') : BX4 c w' := ⟨fun j hj => later hb (h.1 j hj), fun j hj => later hb (h.2.1 j hj), fun j hj => later hb (h.2.2.1 j hj), fun j hj => later hb (h.2.2.2 j hj)⟩
theorem BX4.kx {c : LB} {w w' : World} {S : Nat → Prop} (h : BX4 c w) (hk : KX S w w') (n6 : ¬ S c.b6) (n7 : ¬ S c.b7) (n8 : ¬ S c.b8) (n9 : ¬ S c.b9) : BX4 c w' := ⟨fun j hj => hk.cell (h.1 j hj) n6, fun j hj => hk.cell (h.2.1 j hj) n7, fun j hj => hk.cell (h.2.2.1 j hj) n8, fun j hj => hk.cell (h.2.2.2 j hj) n9⟩
theorem BX4.other {c : LB} {w : World} (h : BX4 c w) {p : Addr} (n6 : p.block ≠ c.b6) (n7 : p.block ≠ c.b7) (n8 : p.block ≠ c.b8) (n9 : p.block ≠ c.b9) (u : Value) : BX4 c (w.setCell p u) := ⟨fun j hj => cell_other (h.1 j hj) n6, fun j hj => cell_other (h.2.1 j hj) n7, fun j hj => cell_other (h.2.2.1 j hj) n8, fun j hj => cell_other (h.2.2.2 j hj) n9⟩
/-- declaration j as mangleCorner leaves it -/
def DJ (c : LB) (D V : Nat → Nat) (j : Nat) (w : World) : Prop := Bk w (D j) 45 (deC (V j) (nN (c.pr j) (c.A j) (c.B j) (nn (c.pr j))) (nn (c.pr j)) (c.lc j) (j : Int) c.imp).toArray ∧ Bk w (V j) 39 (vlC (c.pr j) (c.A j) (c.B j)).toArray ∧ c.Bs ≤ D j ∧ c.Bs ≤ V j
/-- boxes, pointers, finished declarations -/
def LC (c : LB) (kg k : Nat) (D V : Nat → Nat) (w : World) : Prop :=
  BX4 c w ∧ (∀ j, j < kg → w.cell? ⟨c.gD, j, none⟩ = some (.pointer (some ⟨D j, 0, none⟩))) ∧ w.there c.gD 0 4 ∧ (∀ j, j < k → DJ c D V j w) ∧ Below c.w0.heap.size c.w0 w ∧ c.Bs ≤ w.heap.size
theorem DJ.keep {c : LB} {D V : Nat → Nat} {j : Nat} {w w' : World} (h : DJ c D V j w) (hb : Below w.heap.size w w') : DJ c D V j w' := ⟨h.1.keep hb, h.2.1.keep hb, h.2.2⟩
theorem DJ.kx {c : LB} {D V : Nat → Nat} {j : Nat} {w w' : World} {S : Nat → Prop} (h : DJ c D V j w) (hk : KX S w w') (nD : ¬ S (D j)) (nV : ¬ S (V j)) : DJ c D V j w' := ⟨hk.bk h.1 nD, hk.bk h.2.1 nV, h.2.2⟩
theorem DJ.other {c : LB} {D V : Nat → Nat} {j : Nat} {w : World} (h : DJ c D V j w) {p : Addr} (hp : p.block < c.Bs) (u : Value) : DJ c D V j (w.setCell p u) := ⟨h.1.far (by have := h.2.2.1; omega) u, h.2.1.far (by have := h.2.2.2; omega) u, h.2.2⟩
theorem DJ.congr {c : LB} {D V D' V' : Nat → Nat} {j : Nat} {w : World} (h : DJ c D V j w) (e1 : D' j = D j) (e2 : V' j = V j) : DJ c D' V' j w := by
  unfold DJ at *
  rw [e1, e2]
  exact h
theorem LC.keep {c : LB} {kg k : Nat} {D V : Nat → Nat} {w w' : World} (h : LC c kg k D V w) (hw : c.w0.heap.size ≤ c.Bs) (hb : Below w.heap.size w w') : LC c kg k D V w' :=
  ⟨h.1.keep hb, fun j hj => later hb (h.2.1 j hj), th_keep hb h.2.2.1, fun j hj => (h.2.2.2.1 j hj).keep hb, h.2.2.2.2.1.trans (hb.mono (Nat.le_trans hw h.2.2.2.2.2)), Nat.le_trans h.2.2.2.2.2 hb.size⟩
theorem LB.ok.wB {c : LB} (h : c.ok) : c.w0.heap.size ≤ c.Bs := by
  obtain ⟨h1, h2, _⟩ := h
  omega
/-- unmerged, behind k rounds -/
def LU (c : LB) (k : Nat) (D V : Nat → Nat) (w : World) : Prop := LC c k k D V w ∧ RR w c.r 4 (c.R D k) ∧ w.there c.r 0 8 ∧ TG (cnQ (c.Q k)) (c.im k) c.t w
theorem LU.keep {c : LB} {k : Nat} {D V : Nat → Nat} {w w' : World} (h : LU c k D V w) (hc : c.ok) (hb : Below w.heap.size w w') : LU c k D V w' := ⟨h.1.keep hc.wB hb, h.2.1.keep hb, th_keep hb h.2.2.1, h.2.2.2.keep hb⟩
/-- merged -/
def LM (c : LB) (D V : Nat → Nat) (d g nv cv : Nat) (X : Nat → TY) (w : World) : Prop :=
  LC c 4 4 D V w ∧ RR w c.r 4 (upR (rk (c.R D 4) id 4) 3 (some d, mz id c.lc 4)) ∧ Bk w d 45 (dcR (.slice (some ⟨g, 0, none⟩) nv cv) (c.lc 3) c.imp).toArray ∧ TR w g nv X
theorem LM.keep {c : LB} {D V : Nat → Nat} {d g nv cv : Nat} {X : Nat → TY} {w w' : World} (h : LM c D V d g nv cv X w) (hc : c.ok) (hb : Below w.heap.size w w') : LM c D V d g nv cv X w' := ⟨h.1.keep hc.wB hb, h.2.1.keep hb, h.2.2.1.keep hb, h.2.2.2.keep hb⟩
/-- the end of the first loop, unmerged or merged -/
def LE (c : LB) (mf : Bool) (k : Nat) (D V : Nat → Nat) (w : World) : Prop := (¬ mrg (c.Q k) → LU c k D V w) ∧ (mrg (c.Q k) → k = 4 ∧ ∃ d g nv cv X, LM c D V d g nv cv X w ∧ VX (qa (c.Q 4)) (qb (c.Q 4)) mf nv X ∧ ∀ j, j < 4 → d ≠ D j)
/-- in round k, a fresh declaration d with its value v, its pointer laid -/
def LP (c : LB) (k : Nat) (D V : Nat → Nat) (w : World) : Prop :=
  LC c (k + 1) k D V w ∧ TG (cnQ (c.Q k)) (c.im k) c.t w ∧ w.there c.r 0 8 ∧ Bk w (D k) 45 (deC (V k) (nn (c.pr k)) (nn (c.pr k)) (c.lc k) (k : Int) c.imp).toArray ∧ Bk w (V k) 39 (vlC (c.pr k) (c.A k) (c.B k)).toArray ∧ c.Bs ≤ V k ∧ V k < D k ∧ ∀ j, j < k → D j < V k ∧ V j < V k
theorem LP.keep {c : LB} {k : Nat} {D V : Nat → Nat} {w w' : World} (h : LP c k D V w) (hc : c.ok) (hb : Below w.heap.size w w') : LP c k D V w' := ⟨h.1.keep hc.wB hb, h.2.1.keep hb, th_keep hb h.2.2.1, h.2.2.2.1.keep hb, h.2.2.2.2.1.keep hb, h.2.2.2.2.2⟩
theorem rule_put {c : LB} {k : Nat} {D : Nat → Nat} {w : World} (h : RR w c.r 4 (c.R D k)) (ht : w.there c.r 0 8) (hk : k < 4) : RR (w.setCells c.r (k * 2) (ruR (some (D k), c.lc k))) c.r 4 (c.R D (k + 1)) := by
  have h1 := h.put (x := (some (D k), c.lc k)) (i := k) ht hk
  intro j hj
  have h2 := h1 j hj
  have e : upR (c.R D k) k (some (D k), c.lc k) j = c.R D (k + 1) j := by
    unfold upR LB.R
    by_cases e : j = k
    · subst e; rw [if_pos rfl, if_pos (by omega)]
    · rw [if_neg e]
      by_cases e2 : j < k
      · rw [if_pos e2, if_pos (by omega)]
      · rw [if_neg e2, if_neg (by omega)]
  rw [e] at h2
  exact h2
theorem LP.rule {c : LB} {k : Nat} {D V : Nat → Nat} {w : World} (h : LP c k D V w) (hc : c.ok) (o : Nat) (x : RU) : LP c k D V (w.setCells c.r o (ruR x)) := by
  obtain ⟨⟨h1, h2, h3, h4, h5, h6⟩, h7, h8, h9, h10, h11, h12, h13⟩ := h
  obtain ⟨⟨o1, o2, o3, o4, o5, o6, o7⟩, ⟨p1, p2, p3⟩, ⟨n1, n2, n3⟩, ⟨x1, x2, x3⟩, ⟨y1, y2, y3⟩, ⟨z1, z2, z3⟩, u1, u2, u3⟩ := hc
  have st : ∀ (p : Addr) (u : Value), p.block = c.r → ∀ W : World, (BX4 c W ∧ (∀ j, j < k + 1 → W.cell? ⟨c.gD, j, none⟩ = some (.pointer (some ⟨D j, 0, none⟩))) ∧ W.there c.gD 0 4 ∧ (∀ j, j < k → DJ c D V j W) ∧ Below c.w0.heap.size c.w0 W ∧ c.Bs ≤ W.heap.size ∧ TG (cnQ (c.Q k)) (c.im k) c.t W ∧ W.there c.r 0 8 ∧ Bk W (D k) 45 (deC (V k) (nn (c.pr k)) (nn (c.pr k)) (c.lc k) (k : Int) c.imp).toArray ∧ Bk W (V k) 39 (vlC (c.pr k) (c.A k) (c.B k)).toArray) →
      (BX4 c (W.setCell p u) ∧ (∀ j, j < k + 1 → (W.setCell p u).cell? ⟨c.gD, j, none⟩ = some (.pointer (some ⟨D j, 0, none⟩))) ∧ (W.setCell p u).there c.gD 0 4 ∧ (∀ j, j < k → DJ c D V j (W.setCell p u)) ∧ Below c.w0.heap.size c.w0 (W.setCell p u) ∧ c.Bs ≤ (W.setCell p u).heap.size ∧ TG (cnQ (c.Q k)) (c.im k) c.t (W.setCell p u) ∧ (W.setCell p u).there c.r 0 8 ∧ Bk (W.setCell p u) (D k) 45 (deC (V k) (nn (c.pr k)) (nn (c.pr k)) (c.lc k) (k : Int) c.imp).toArray ∧ Bk (W.setCell p u) (V k) 39 (vlC (c.pr k) (c.A k) (c.B k)).toArray) := by
    rintro p u hp W ⟨g1, g2, g3, g4, g5, g6, g7, g8, g9, g10⟩
    exact ⟨g1.other (by rw [hp]; exact fun e => x2 e.symm) (by rw [hp]; exact fun e => y2 e.symm) (by rw [hp]; exact fun e => z2 e.symm) (by rw [hp]; exact fun e => u2 e.symm) u, fun j hj => cell_other (g2 j hj) (by rw [hp]; exact fun e => n1 e.symm), th_set g3, fun j hj => (g4 j hj).other (by rw [hp]; exact o6) u, g5.setCell (by rw [hp]; exact p2) u, by simpa [World.setCell] using g6, g7.other (by rw [hp]; exact n3) u, th_set g8, g9.far (by rw [hp]; omega) u, g10.far (by rw [hp]; omega) u⟩
  have h0 := st ⟨c.r, o + 1, none⟩ (.int .i32 x.2) rfl _ (st ⟨c.r, o, none⟩ (dv x.1) rfl w ⟨h1, h2, h3, h4, h5, h6, h7, h8, h9, h10⟩)
  show LP c k D V ((w.setCell ⟨c.r, o, none⟩ (dv x.1)).setCell ⟨c.r, o + 1, none⟩ (.int .i32 x.2))
  obtain ⟨g1, g2, g3, g4, g5, g6, g7, g8, g9, g10⟩ := h0
  exact ⟨⟨g1, g2, g3, g4, g5, g6⟩, g7, g8, g9, g10, h11, h12, h13⟩
/-- mangleCorner's leave is the next round's state -/
theorem LP.mangled {c : LB} {k : Nat} {D V : Nat → Nat} {mf : Bool} {w w' : World} (h : LP c k D V w) (hc : c.ok) (hk : k < 4) (hR : RR w c.r 4 (c.R D (k + 1)))
    (hM : McP (c.A k) (c.B k) (c.pr k) (nn (c.pr k)) (nn (c.pr k)) c.t c.r (k + 1) (D k) (V k) k c.imp mf (c.lc k) (k : Int) (c.Q k) (c.R D (k + 1)) c.lc w w') : LE c mf (k + 1) D V w' := by
  obtain ⟨⟨h1, h2, h3, h4, h5, h6⟩, h7, h8, h9, h10, h11, h12, h13⟩ := h
  obtain ⟨m1, m2, m3, m4, m5⟩ := hM
  obtain ⟨⟨o1, o2, o3, o4, o5, o6, o7⟩, ⟨p1, p2, p3⟩, ⟨n1, n2, n3⟩, ⟨x1, x2, x3⟩, ⟨y1, y2, y3⟩, ⟨z1, z2, z3⟩, u1, u2, u3⟩ := hc
  have eQ : nQ (c.Q k) k (c.A k) (c.B k) = c.Q (k + 1) := rfl
  rw [eQ] at m1 m2 m5
  have hBs : c.w0.heap.size ≤ c.Bs := by omega
  have hb : Below c.w0.heap.size c.w0 w' := ⟨m1.1.trans h5.os, m1.2.1.trans h5.tape, m1.2.2.1.trans h5.output, Nat.le_trans h5.size m1.2.2.2.1, fun i hi => (m1.2.2.2.2 i (Nat.lt_of_lt_of_le hi h5.size) (by rintro (e | e | e | ⟨_, e⟩) <;> omega)).trans (h5.block i hi)⟩
  have hC : LC c (k + 1) (k + 1) D V w' := by
    refine ⟨h1.kx m1 (by rintro (e | e | e | ⟨_, e⟩) <;> omega) (by rintro (e | e | e | ⟨_, e⟩) <;> omega) (by rintro (e | e | e | ⟨_, e⟩) <;> omega) (by rintro (e | e | e | ⟨_, e⟩) <;> omega), fun j hj => m1.cell (h2 j hj) (by rintro (e | e | e | ⟨_, e⟩) <;> dsimp only at e <;> omega), m1.th h3 (by rintro (e | e | e | ⟨_, e⟩) <;> omega) (by omega), fun j hj => ?_, hb, Nat.le_trans h6 m1.2.2.2.1⟩
    by_cases e : j = k
    · subst e
      exact ⟨m3, m4, by omega, h11⟩
    · have hj2 := h4 j (by omega)
      have hj3 := h13 j (by omega)
      have hl1 := hj2.2.2.1
      have hl2 := hj2.2.2.2
      exact hj2.kx m1 (by rintro (e | e | e | ⟨_, e⟩) <;> omega) (by rintro (e | e | e | ⟨_, e⟩) <;> omega)
  refine ⟨fun hn => ?_, fun hm => ?_⟩
  · have hnr : ¬ (c.r = c.t ∨ c.r = D k ∨ c.r = V k ∨ (mrg (c.Q (k + 1)) ∧ c.r = c.r)) := by
      rintro (e | e | e | ⟨e, _⟩)
      · omega
      · omega
      · omega
      · exact hn e
    exact ⟨hC, fun j hj => m1.rg (hR j hj) hnr, m1.th h8 hnr (by omega), by
      have := m2 hn
      unfold LB.im
      rw [if_neg (by omega)]
      exact this⟩
  · have h4k : k = 3 := by have := qk_mrg hm; omega
    subst h4k
    obtain ⟨wA, ⟨d, g, nv, cv, X, r1, r2, r3, r4, r5, r6⟩, hA⟩ := m5 hm
    refine ⟨rfl, d, g, nv, cv, X, ⟨hC, r1, r2, r4⟩, r3, fun j hj => ?_⟩
    have : D j < w.heap.size := by
      by_cases e : j = 3
      · subst e; exact h9.lt
      · exact (h4 j (by omega)).1.lt
    omega
end Go.Proofs.YtmaljklijpoojaaDoor.Co
