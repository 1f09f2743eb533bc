/-
  The state of the law of four longhands: its start, a round's fresh declaration, the codes' arrays.
-/
import Derived.Test.YtmaljklijpoojaaDoorCz
namespace Go.Proofs.YtmaljklijpoojaaDoor.Co
open Go.ChangeShapes Go.WideShapes Go.ChangeAt Go.RowKit Rg Quad
set_option linter.unusedVariables false
set_option linter.unusedSimpArgs false
def upM (f : Nat → Nat) (k x j : Nat) : Nat := if j = k then x else f j
theorem upM_lt {f : Nat → Nat} {k x j : Nat} (h : j < k) : upM f k x j = f j := by unfold upM; rw [if_neg (by omega)]
theorem upM_same {f : Nat → Nat} {k x : Nat} : upM f k x k = x := by unfold upM; rw [if_pos rfl]
theorem LB.R_congr (c : LB) {D D' : Nat → Nat} {k : Nat} (h : ∀ j, j < k → D j = D' j) : c.R D k = c.R D' k := by
  funext j
  unfold LB.R
  by_cases e : j < k
  · rw [if_pos e, if_pos e, h j e]
  · rw [if_neg e, if_neg e]
/-- the world with declaration d made and its pointer laid -/
def mkD (c : LB) (k v : Nat) (w : World) : World := (w.alloc (.cells (deC v (nn (c.pr k)) (nn (c.pr k)) (c.lc k) (k : Int) c.imp).toArray 45)).setCell ⟨c.gD, k, none⟩ (.pointer (some ⟨w.heap.size, 0, none⟩))
theorem LU.fresh {c : LB} {k : Nat} {D V : Nat → Nat} {w : World} (h : LU c k D V w) (hc : c.ok) (hk : k < 4) {v : Nat} (hv : Bk w v 39 (vlC (c.pr k) (c.A k) (c.B k)).toArray) (hvB : c.Bs ≤ v) (hvD : ∀ j, j < k → D j < v ∧ V j < v) :
    LP c k (upM D k w.heap.size) (upM V k v) (mkD c k v w) ∧ RR (mkD c k v w) c.r 4 (c.R (upM D k w.heap.size) k) := by
  have hb : Below w.heap.size w (w.alloc (.cells (deC v (nn (c.pr k)) (nn (c.pr k)) (c.lc k) (k : Int) c.imp).toArray 45)) := (Below.refl _ _).alloc (Nat.le_refl _) _
  have hn := heap_alloc_new w (.cells (deC v (nn (c.pr k)) (nn (c.pr k)) (c.lc k) (k : Int) c.imp).toArray 45)
  obtain ⟨h0, hR, hr, hT⟩ := h.keep hc hb
  have hv1 := hv.keep hb
  have hvl := hv.lt
  have hwB := h.1.2.2.2.2.2
  unfold mkD
  obtain ⟨g1, g2, g3, g4, g5, g6⟩ := h0
  generalize w.alloc (.cells (deC v (nn (c.pr k)) (nn (c.pr k)) (c.lc k) (k : Int) c.imp).toArray 45) = W at *
  obtain ⟨⟨o1, o2, o3, o4, o5, o6, o7⟩, ⟨p1, p2, p3⟩, ⟨n1, n2, n3⟩, ⟨x1, x2, x3⟩, ⟨y1, y2, y3⟩, ⟨z1, z2, z3⟩, u1, u2, u3⟩ := hc
  refine ⟨⟨⟨g1.other (fun e => x1 e.symm) (fun e => y1 e.symm) (fun e => z1 e.symm) (fun e => u1 e.symm) _, fun j hj => ?_, th_set g3, fun j hj => ?_, g5.setCell p1 _, by simpa [World.setCell] using g6⟩, hT.other n2 _, th_set hr, ?_, ?_, by rw [upM_same]; exact hvB, by rw [upM_same, upM_same]; exact hvl, fun j hj => ?_⟩, fun j hj => ?_⟩
  · by_cases e : j = k
    · subst e
      rw [upM_same]
      exact set_same (by have := (g3 j hk).1; rwa [Nat.zero_add] at this)
    · rw [upM_lt (by omega)]
      exact set_far (fun e2 => e e2.symm) (g2 j (by omega))
  · exact ((g4 j hj).other (p := ⟨c.gD, k, none⟩) o5 _).congr (upM_lt hj) (upM_lt hj)
  · rw [upM_same, upM_same]
    exact Bk.far hn (p := ⟨c.gD, k, none⟩) (by dsimp only; omega) _
  · rw [upM_same]
    exact Bk.far hv1 (p := ⟨c.gD, k, none⟩) (by dsimp only; omega) _
  · rw [upM_lt hj, upM_lt hj, upM_same]
    exact hvD j hj
  · rw [c.R_congr (D := upM D k w.heap.size) (D' := D) (fun j hj => upM_lt hj)]
    exact rg_other (hR j hj) n1
/-- the boxes at the start -/
theorem BX4.start (gD r t Bs : Nat) (f s : Nat → Int) (pr : Nat → Bool) (lc : Nat → Int) (imp : Bool) (w : World) (t1 t2 t3 : TypeId) :
    BX4 ⟨w.heap.size, w.heap.size + 1, w.heap.size + 1 + 1, w.heap.size + 1 + 1 + 1, gD, r, t, Bs, f, s, lc, pr, imp, w⟩ ((((w.alloc (.cells #[.int .u8 (f 0), .int .u8 (f 1), .int .u8 (f 2), .int .u8 (f 3)] t1)).alloc (.cells #[.int .u8 (s 0), .int .u8 (s 1), .int .u8 (s 2), .int .u8 (s 3)] t1)).alloc (.cells #[.bool (pr 0), .bool (pr 1), .bool (pr 2), .bool (pr 3)] t2)).alloc (.cells #[.int .i32 (lc 0), .int .i32 (lc 1), .int .i32 (lc 2), .int .i32 (lc 3)] t3)) ∧
    Below w.heap.size w ((((w.alloc (.cells #[.int .u8 (f 0), .int .u8 (f 1), .int .u8 (f 2), .int .u8 (f 3)] t1)).alloc (.cells #[.int .u8 (s 0), .int .u8 (s 1), .int .u8 (s 2), .int .u8 (s 3)] t1)).alloc (.cells #[.bool (pr 0), .bool (pr 1), .bool (pr 2), .bool (pr 3)] t2)).alloc (.cells #[.int .i32 (lc 0), .int .i32 (lc 1), .int .i32 (lc 2), .int .i32 (lc 3)] t3)) := by
  have hA := heap_alloc_new w (.cells #[.int .u8 (f 0), .int .u8 (f 1), .int .u8 (f 2), .int .u8 (f 3)] t1)
  have h1 := (Below.refl w.heap.size w).alloc (Nat.le_refl _) (.cells #[.int .u8 (f 0), .int .u8 (f 1), .int .u8 (f 2), .int .u8 (f 3)] t1)
  have s1 : (w.alloc (.cells #[.int .u8 (f 0), .int .u8 (f 1), .int .u8 (f 2), .int .u8 (f 3)] t1)).heap.size = w.heap.size + 1 := by simp
  generalize w.alloc (.cells #[.int .u8 (f 0), .int .u8 (f 1), .int .u8 (f 2), .int .u8 (f 3)] t1) = wa at *
  have hB := heap_alloc_new wa (.cells #[.int .u8 (s 0), .int .u8 (s 1), .int .u8 (s 2), .int .u8 (s 3)] t1)
  have h2 := (Below.refl wa.heap.size wa).alloc (Nat.le_refl _) (.cells #[.int .u8 (s 0), .int .u8 (s 1), .int .u8 (s 2), .int .u8 (s 3)] t1)
  have s2 : (wa.alloc (.cells #[.int .u8 (s 0), .int .u8 (s 1), .int .u8 (s 2), .int .u8 (s 3)] t1)).heap.size = w.heap.size + 1 + 1 := by simp [s1]
  generalize wa.alloc (.cells #[.int .u8 (s 0), .int .u8 (s 1), .int .u8 (s 2), .int .u8 (s 3)] t1) = wb at *
  have hC := heap_alloc_new wb (.cells #[.bool (pr 0), .bool (pr 1), .bool (pr 2), .bool (pr 3)] t2)
  have h3 := (Below.refl wb.heap.size wb).alloc (Nat.le_refl _) (.cells #[.bool (pr 0), .bool (pr 1), .bool (pr 2), .bool (pr 3)] t2)
  have s3 : (wb.alloc (.cells #[.bool (pr 0), .bool (pr 1), .bool (pr 2), .bool (pr 3)] t2)).heap.size = w.heap.size + 1 + 1 + 1 := by simp [s2]
  generalize wb.alloc (.cells #[.bool (pr 0), .bool (pr 1), .bool (pr 2), .bool (pr 3)] t2) = wd at *
  have hD := heap_alloc_new wd (.cells #[.int .i32 (lc 0), .int .i32 (lc 1), .int .i32 (lc 2), .int .i32 (lc 3)] t3)
  have h4 := (Below.refl wd.heap.size wd).alloc (Nat.le_refl _) (.cells #[.int .i32 (lc 0), .int .i32 (lc 1), .int .i32 (lc 2), .int .i32 (lc 3)] t3)
  generalize wd.alloc (.cells #[.int .i32 (lc 0), .int .i32 (lc 1), .int .i32 (lc 2), .int .i32 (lc 3)] t3) = we at *
  rw [s1] at hB h2
  rw [s2] at hC h3
  rw [s3] at hD h4
  have hA' : Bk wa w.heap.size t1 _ := hA
  have hB' : Bk wb (w.heap.size + 1) t1 _ := hB
  have hC' : Bk wd (w.heap.size + 1 + 1) t2 _ := hC
  have hD' : Bk we (w.heap.size + 1 + 1 + 1) t3 _ := hD
  have k1 := ((hA'.keep (by rw [s1]; exact h2)).keep (by rw [s2]; exact h3)).keep (by rw [s3]; exact h4)
  have k2 := (hB'.keep (by rw [s2]; exact h3)).keep (by rw [s3]; exact h4)
  have k3 := hC'.keep (by rw [s3]; exact h4)
  have cs : ∀ j, j < 4 → j = 0 ∨ j = 1 ∨ j = 2 ∨ j = 3 := fun j hj => by omega
  refine ⟨⟨fun j hj => ?_, fun j hj => ?_, fun j hj => ?_, fun j hj => ?_⟩, h1.trans ((h2.mono (by omega)).trans ((h3.mono (by omega)).trans (h4.mono (by omega))))⟩
  · rcases cs j hj with rfl | rfl | rfl | rfl <;> exact Bk.cell k1 _ rfl
  · rcases cs j hj with rfl | rfl | rfl | rfl <;> exact Bk.cell k2 _ rfl
  · rcases cs j hj with rfl | rfl | rfl | rfl <;> exact Bk.cell k3 _ rfl
  · rcases cs j hj with rfl | rfl | rfl | rfl <;> exact Bk.cell hD' _ rfl
/-- the codes' arrays under construction -/
def AW (A B : Nat → Int) (ga gb ka kb : Nat) (wE w : World) : Prop := (∀ j, j < ka → w.cell? ⟨ga, j, none⟩ = some (.int .u8 (A j))) ∧ (∀ j, j < kb → w.cell? ⟨gb, j, none⟩ = some (.int .u8 (B j))) ∧ w.there ga 0 4 ∧ w.there gb 0 4 ∧ Below wE.heap.size wE w ∧ wE.heap.size ≤ w.heap.size
section
variable {A B : Nat → Int} {ga gb ka kb : Nat} {wE w w' : World}
theorem AW.keep (h : AW A B ga gb ka kb wE w) (hb : Below w.heap.size w w') : AW A B ga gb ka kb wE w' := ⟨fun j hj => later hb (h.1 j hj), fun j hj => later hb (h.2.1 j hj), th_keep hb h.2.2.1, th_keep hb h.2.2.2.1, h.2.2.2.2.1.trans (hb.mono h.2.2.2.2.2), Nat.le_trans h.2.2.2.2.2 hb.size⟩
theorem AW.put1 (h : AW A B ga gb ka kb wE w) (hk : ka < 4) (hne : ga ≠ gb) (hB : wE.heap.size ≤ ga) : AW A B ga gb (ka + 1) kb wE (w.setCell ⟨ga, ka, none⟩ (.int .u8 (A ka))) := by
  refine ⟨fun j hj => ?_, fun j hj => cell_other (h.2.1 j hj) hne, th_set h.2.2.1, th_set h.2.2.2.1, h.2.2.2.2.1.setCell hB _, by simpa [World.setCell] using h.2.2.2.2.2⟩
  by_cases e : j = ka
  · subst e
    exact set_same (by have := (h.2.2.1 j hk).1; rwa [Nat.zero_add] at this)
  · exact set_far (fun e2 => e e2.symm) (h.1 j (by omega))
theorem AW.junk (h : AW A B ga gb ka kb wE w) (hne : ga ≠ gb) (hB : wE.heap.size ≤ gb) (x : Value) : AW A B ga gb ka kb wE (w.setCell ⟨gb, kb, none⟩ x) :=
  ⟨fun j hj => cell_other (h.1 j hj) (fun e => hne e.symm), fun j hj => set_far (by omega) (h.2.1 j hj), th_set h.2.2.1, th_set h.2.2.2.1, h.2.2.2.2.1.setCell hB _, by simpa [World.setCell] using h.2.2.2.2.2⟩
theorem AW.put2 (h : AW A B ga gb ka kb wE w) (hk : kb < 4) (hne : ga ≠ gb) (hB : wE.heap.size ≤ gb) : AW A B ga gb ka (kb + 1) wE (w.setCell ⟨gb, kb, none⟩ (.int .u8 (B kb))) := by
  refine ⟨fun j hj => cell_other (h.1 j hj) (fun e => hne e.symm), fun j hj => ?_, th_set h.2.2.1, th_set h.2.2.2.1, h.2.2.2.2.1.setCell hB _, by simpa [World.setCell] using h.2.2.2.2.2⟩
  by_cases e : j = kb
  · subst e
    exact set_same (by have := (h.2.2.2.1 j hk).1; rwa [Nat.zero_add] at this)
  · exact set_far (fun e2 => e e2.symm) (h.2.1 j (by omega))
end
def acc (A B : Nat → Int) : Nat → Bool
  | 0 => true
  | k + 1 => acc A B k && decide (A k ≤ 4 ∧ B k ≤ 4)
theorem acc_iff (A B : Nat → Int) : ∀ k, acc A B k = true ↔ ∀ j, j < k → A j ≤ 4 ∧ B j ≤ 4
  | 0 => ⟨fun _ j hj => absurd hj (by omega), fun _ => rfl⟩
  | k + 1 => by
    unfold acc
    rw [Bool.and_eq_true, acc_iff A B k, decide_eq_true_eq]
    refine ⟨fun h j hj => ?_, fun h => ⟨fun j hj => h j (by omega), h k (by omega)⟩⟩
    by_cases e : j = k
    · subst e; exact h.2
    · exact h.1 j (by omega)
theorem acc_mrg (A B : Nat → Int) : acc A B 4 = true ↔ mrg (QK A B 4) := by rw [acc_iff, qk_iff]
theorem LE.core {c : LB} {mf : Bool} {D V : Nat → Nat} {w : World} (h : LE c mf 4 D V w) : LC c 4 4 D V w := by
  by_cases hm : mrg (c.Q 4)
  · obtain ⟨_, d, g, nv, cv, X, h2, _⟩ := h.2 hm
    exact h2.1
  · exact (h.1 hm).1
theorem LE.keep {c : LB} {mf : Bool} {k : Nat} {D V : Nat → Nat} {w w' : World} (h : LE c mf k D V w) (hc : c.ok) (hb : Below w.heap.size w w') : LE c mf k D V w' := by
  refine ⟨fun hn => (h.1 hn).keep hc hb, fun hm => ?_⟩
  obtain ⟨h4, d, g, nv, cv, X, h2, h3⟩ := h.2 hm
  exact ⟨h4, d, g, nv, cv, X, h2.keep hc hb, h3⟩
theorem LE.start {c : LB} (mf : Bool) {w : World} (D V : Nat → Nat) (h1 : BX4 c w) (h2 : w.there c.gD 0 4) (h3 : RR w c.r 4 (fun _ => (none, 0))) (h4 : w.there c.r 0 8) (h5 : TG (cnQ (fun _ => none)) false c.t w) (h6 : Below c.w0.heap.size c.w0 w) (h7 : c.Bs ≤ w.heap.size) : LE c mf 0 D V w := by
  refine ⟨fun _ => ⟨⟨h1, fun j hj => absurd hj (by omega), h2, fun j hj => absurd hj (by omega), h6, h7⟩, fun j hj => ?_, h4, h5⟩, fun hm => absurd (qk_mrg hm) (by omega)⟩
  have := h3 j hj
  unfold LB.R
  rw [if_neg (by omega)]
  exact this
theorem lp_call {c : LB} {k : Nat} {D V : Nat → Nat} {w : World} (mf : Bool) (cr : Nat) (h : LP c k D V w) (hc : c.ok) (hk : k < 4) (hR : RR w c.r 4 (c.R D (k + 1))) :
    Calls Tryd.prog 6 #[.pointer (some ⟨c.t, 0, none⟩), .slice (some ⟨c.r, 0, none⟩) (k + 1) cr, .pointer (some ⟨D k, 0, none⟩), .bool mf, .int .i64 (k : Int)] w fun e w' => e = .returned (.tuple #[]) ∧ LE c mf (k + 1) D V w' := by
  have hA : ∀ j, 0 ≤ c.A j ∧ c.A j < 8 := fun j => by unfold LB.A; omega
  have hB : ∀ j, 0 ≤ c.B j ∧ c.B j < 8 := fun j => by unfold LB.B; split <;> omega
  have hI : c.im k = c.imp ∨ c.Q k = fun _ => none := by
    by_cases e : k = 0
    · subst e; exact .inr rfl
    · unfold LB.im; rw [if_neg e]; exact .inl rfl
  have hlc : ∀ i, i < k + 1 → (c.R D (k + 1) i).2 = c.lc i := fun i hi => by unfold LB.R; rw [if_pos hi]
  have hmg : mrg (nQ (c.Q k) k (c.A k) (c.B k)) → k = 3 := fun hm => by
    have : 4 ≤ k + 1 := qk_mrg (A := c.A) (B := c.B) (k := k + 1) hm
    omega
  have hpm : c.pr k = false → c.B k = c.A k := fun e => by unfold LB.A LB.B; rw [e]; rfl
  have h' := h
  obtain ⟨h1, h2, h3, h4, h5, h6, h7, h8⟩ := h'
  have hc' := hc
  obtain ⟨⟨o1, o2, o3, o4, o5, o6, o7⟩, ⟨p1, p2, p3⟩, ⟨n1, n2, n3⟩, _⟩ := hc'
  refine (zm_any (c.A k) (c.B k) (c.pr k) (nn (c.pr k)) c.t c.r (k + 1) cr (D k) (V k) k (c.im k) c.imp mf (c.lc k) (k : Int) (c.Q k) (c.R D (k + 1)) c.lc w (hA k) (hB k) rfl hpm h2 hI (qk_ok (fun i => ⟨(hA i).1, (hB i).1⟩) k) (qk_none k k (Nat.le_refl _)) hk rfl (fun j hj => hR j (by omega)) (th_sub h3 (by omega) (by omega)) hlc (fun e => by omega) hmg h4 h5 (fun e => n3 e.symm) (by omega) (by omega) (by omega) (by omega) (by omega)).mono fun e w' hh => ⟨hh.1, h.mangled hc hk hR hh.2⟩
end Go.Proofs.YtmaljklijpoojaaDoor.Co
