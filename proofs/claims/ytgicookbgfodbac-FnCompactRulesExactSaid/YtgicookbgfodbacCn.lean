/-
  The law's own state; zzBytes; ZZcompactRules.
-/
import Derived.Test.YtgicookbgfodbacCl
namespace Go.Proofs.Ytgicookbgfodbac.Co
open Go.ChangeShapes Go.WideShapes Go.ChangeAt Go.RowKit Rg Quad
set_option linter.unusedVariables false
set_option linter.unusedSimpArgs false
def ZB (Q : Prop) (w : World) (e : Ending) (w' : World) : Prop := (∃ r : Bool, e = .returned (.bool r) ∧ (r = true → Q)) ∧ Below w.heap.size w w'
set_option maxRecDepth 100000 in
set_option maxHeartbeats 1000000 in
theorem zb56 (A B C : Array Value) (al : Option Addr) (n c : Nat) (b1 b2 : Bool) (k : Int) (w : World) (hn : (n : Int) ≤ 9223372036854775807) : Calls Try.prog 4 #[.agg A, .agg B, .agg C, .slice al n c, .bool b1, .bool b2, .int .i32 k] w (ZB ((n : Int) ≤ 1048576) w) := by
  go_enter Try.func4, Try.ntmps4
  have hb : ∀ o o' o'' : Obj, Below w.heap.size w (((w.alloc o).alloc o').alloc o'') := fun o o' o'' => (((Below.refl _ _).alloc (Nat.le_refl _) _).alloc (by simp) _).alloc (by simp; omega) _
  by_cases g : (1048576 : Int) < n
  · go_wp2_with fail
    go_ret
    exact ⟨⟨false, rfl, fun h => (by cases h)⟩, hb _ _ _⟩
  · have g' : (n : Int) ≤ 1048576 := by omega
    go_wp2_with fail
    go_ret
    exact ⟨⟨true, rfl, fun _ => by first | exact g' | trivial⟩, hb _ _ _⟩
set_option maxRecDepth 100000 in
set_option maxHeartbeats 1000000 in
theorem cw_any (t r n cr : Nat) (q1 q2 : Nat → Int) (ix : Nat → Nat) (imp mf : Bool) (key : Int) (R : Nat → RU) (lc : Nat → Int) (w : World)
    (ht : TK q1 q2 ix false imp t w) (htr : t ≠ r) (hR : RR w r n R) (hth : w.there r 0 (n * 2)) (hix : ∀ i, i < 4 → ix i < n) (hlc : ∀ i, i < 4 → (R (ix i)).2 = lc (ix i)) (hn : n ≤ 4096)
    (hq1 : ∀ j, j < 4 → 0 ≤ q1 j ∧ q1 j < 8) (hq2 : ∀ j, j < 4 → 0 ≤ q2 j ∧ q2 j < 8) :
    Calls Try.prog 10 #[.pointer (some ⟨t, 0, none⟩), .slice (some ⟨r, 0, none⟩) n cr, .agg #[.int .i32 key, .int .i32 13], .bool mf] w fun e w' => e = .returned (.tuple #[]) ∧ CrP q1 q2 ix imp mf key r n R lc w w' := by
  have hb : Below w.heap.size w (w.alloc (.cells #[.int .i32 key, .int .i32 13] 52)) := (Below.refl _ _).alloc (Nat.le_refl _) _
  have hcr := cr_any t r n cr q1 q2 ix imp mf key R lc _ (ht.keep hb) htr (hR.keep hb) (th_keep hb hth) hix hlc hn hq1 hq2
  have HC := Lib.hid hcr
  have HB := Lib.hid hb
  clear hcr hb ht htr hR hth hix hlc hq1 hq2
  go_enter Try.func10, Try.ntmps10
  go_wp2_with fail
  refine HC.out.mono ?_
  rintro e w1 ⟨rfl, d, g, nv, cv, X, h1, h2, h3, h4, h5, h6⟩
  go_wp2_with fail
  (try simp only [Exit.inBlock, Exit.then])
  refine bodyPost_end (results_none rfl _ _ _) rfl ?_
  exact ⟨rfl, d, g, nv, cv, X, h1, h2, h3, h4, Nat.le_trans HB.out.size h5, (gb_below HB.out).trans h6⟩
def Z72 : Array Value := #[.pointer none, .string ⟨#[]⟩, .int .i32 0, .int .u32 0, .int .u16 0, .int .u8 0, .int .u8 0, .pointer none, .string ⟨#[]⟩, .int .i32 0, .int .u32 0, .int .u16 0, .int .u8 0, .int .u8 0, .string ⟨#[]⟩, .int .u8 0, .int .u32 0, .bool false, .pointer none, .string ⟨#[]⟩, .int .i32 0, .int .u32 0, .int .u16 0, .int .u8 0, .int .u8 0, .pointer none, .string ⟨#[]⟩, .int .i32 0, .int .u32 0, .int .u16 0, .int .u8 0, .int .u8 0, .string ⟨#[]⟩, .int .u8 0, .int .u32 0, .bool false, .pointer none, .string ⟨#[]⟩, .int .i32 0, .int .u32 0, .int .u16 0, .int .u8 0, .int .u8 0, .pointer none, .string ⟨#[]⟩, .int .i32 0, .int .u32 0, .int .u16 0, .int .u8 0, .int .u8 0, .string ⟨#[]⟩, .int .u8 0, .int .u32 0, .bool false, .pointer none, .string ⟨#[]⟩, .int .i32 0, .int .u32 0, .int .u16 0, .int .u8 0, .int .u8 0, .pointer none, .string ⟨#[]⟩, .int .i32 0, .int .u32 0, .int .u16 0, .int .u8 0, .int .u8 0, .string ⟨#[]⟩, .int .u8 0, .int .u32 0, .bool false]
theorem run_al72 (w : World) : (Instr.alloc 46 true (.tuple #[])).run Try.prog w = .ok (.pointer (some ⟨w.heap.size, 0, none⟩)) (w.alloc (.cells Z72 46)) := by kernel_rfl
theorem wpl_alloc {P : Program} {ops : Array Oper} {rest : List Oper} {o : Oper} {a : Act} {w : World} {Q : Exit → Act → World → Prop} (hg : o.guard = none) (t : TypeId) (ho : o.op = .alloc t) (r : Value) (w' : World) (hrun : (Instr.alloc t true (.tuple #[])).run P w = .ok r w') (h : wpList P ops Q rest (a.put o.dst r) w') : wpList P ops Q (o :: rest) a w := by
  refine wpList_plain hg fun _ hK => ?_
  unfold Oper.wp execOp
  simp only [ho, Sem.run_bind, hrun, Result.andThen_ok]
  exact hK _ _ h
/-- the boxes of the arrays that came in -/
def BX3 (b0 b1 b2 : Nat) (z0 z1 z2 : Nat → Int) (w : World) : Prop := (∀ j, j < 4 → w.cell? ⟨b0, j, none⟩ = some (.int .u8 (z0 j))) ∧ (∀ j, j < 4 → w.cell? ⟨b1, j, none⟩ = some (.int .u8 (z1 j))) ∧ (∀ j, j < 4 → w.cell? ⟨b2, j, none⟩ = some (.int .u16 (z2 j)))
theorem BX3.keep {b0 b1 b2 : Nat} {z0 z1 z2 : Nat → Int} {w w' : World} (h : BX3 b0 b1 b2 z0 z1 z2 w) (hb : Below w.heap.size w w') : BX3 b0 b1 b2 z0 z1 z2 w' :=
  ⟨fun j hj => later hb (h.1 j hj), fun j hj => later hb (h.2.1 j hj), fun j hj => later hb (h.2.2 j hj)⟩
def a16 (q : Nat → Int) : List Value := [.int .u16 (q 0), .int .u16 (q 1), .int .u16 (q 2), .int .u16 (q 3)]
theorem BX3.start (z0 z1 z2 : Nat → Int) (t t' : TypeId) (w : World) : BX3 w.heap.size (w.heap.size + 1) (w.heap.size + 1 + 1) z0 z1 z2 (((w.alloc (.cells (a4 z0).toArray t)).alloc (.cells (a4 z1).toArray t)).alloc (.cells (a16 z2).toArray t')) ∧ Below w.heap.size w (((w.alloc (.cells (a4 z0).toArray t)).alloc (.cells (a4 z1).toArray t)).alloc (.cells (a16 z2).toArray t')) := by
  have al : ∀ (W : World) (o : Obj), Below W.heap.size W (W.alloc o) := fun W o => (Below.refl _ _).alloc (Nat.le_refl _) _
  have c4 : ∀ (W : World) (b : Nat) (q : Nat → Int), W.rangeAt b 0 (a4 q) → ∀ j, j < 4 → W.cell? ⟨b, j, none⟩ = some (.int .u8 (q j)) := fun W b q h j hj => by
    have hq : (a4 q)[j]? = some (.int .u8 (q j)) := by
      have c : j = 0 ∨ j = 1 ∨ j = 2 ∨ j = 3 := by omega
      rcases c with rfl | rfl | rfl | rfl <;> rfl
    have := h j _ hq
    rwa [Nat.zero_add] at this
  have c16 : ∀ (W : World) (b : Nat) (q : Nat → Int), W.rangeAt b 0 (a16 q) → ∀ j, j < 4 → W.cell? ⟨b, j, none⟩ = some (.int .u16 (q j)) := fun W b q h j hj => by
    have hq : (a16 q)[j]? = some (.int .u16 (q j)) := by
      have c : j = 0 ∨ j = 1 ∨ j = 2 ∨ j = 3 := by omega
      rcases c with rfl | rfl | rfl | rfl <;> rfl
    have := h j _ hq
    rwa [Nat.zero_add] at this
  have r0 := rg_keep (al _ (.cells (a16 z2).toArray t')) (rg_keep (al _ (.cells (a4 z1).toArray t)) (rg_new w (a4 z0).toArray t))
  have r1 := rg_keep (al _ (.cells (a16 z2).toArray t')) (rg_new (w.alloc (.cells (a4 z0).toArray t)) (a4 z1).toArray t)
  have r2 := rg_new ((w.alloc (.cells (a4 z0).toArray t)).alloc (.cells (a4 z1).toArray t)) (a16 z2).toArray t'
  rw [show (w.alloc (.cells (a4 z0).toArray t)).heap.size = w.heap.size + 1 by simp] at r1
  rw [show ((w.alloc (.cells (a4 z0).toArray t)).alloc (.cells (a4 z1).toArray t)).heap.size = w.heap.size + 1 + 1 by simp] at r2
  exact ⟨⟨c4 _ _ _ r0, c4 _ _ _ r1, c16 _ _ _ r2⟩, (((Below.refl _ _).alloc (Nat.le_refl _) _).alloc (by simp) _).alloc (by simp; omega) _⟩
def LW (gx g1 g2 gc : Nat) (ix : Nat → Nat) (q1 q2 : Nat → Int) (a b c m : Nat) (wL w : World) : Prop :=
  (∀ j, j < a → w.cell? ⟨gx, j, none⟩ = some (.int .i64 (ix j : Int))) ∧ (∀ j, j < b → w.cell? ⟨g1, j, none⟩ = some (.int .u8 (q1 j))) ∧ (∀ j, j < c → w.cell? ⟨g2, j, none⟩ = some (.int .u8 (q2 j))) ∧ (∀ j, j < m → w.rangeAt gc (j * 18) (cnR (q1 j) (q2 j) (ix j) false)) ∧ w.there gx 0 4 ∧ w.there g1 0 4 ∧ w.there g2 0 4 ∧ w.there gc 0 72 ∧ Below wL.heap.size wL w
section
variable {gx g1 g2 gc : Nat} {ix : Nat → Nat} {q1 q2 : Nat → Int} {a b c m : Nat} {wL w w' : World}
theorem LW.keep (h : LW gx g1 g2 gc ix q1 q2 a b c m wL w) (hb : Below w.heap.size w w') : LW gx g1 g2 gc ix q1 q2 a b c m wL w' := by
  obtain ⟨h1, h2, h3, h4, h5, h6, h7, h8, h9⟩ := h
  exact ⟨fun j hj => later hb (h1 j hj), fun j hj => later hb (h2 j hj), fun j hj => later hb (h3 j hj), fun j hj => rg_keep hb (h4 j hj), th_keep hb h5, th_keep hb h6, th_keep hb h7, th_keep hb h8, h9.trans (hb.mono h9.size)⟩
theorem LW.px (h : LW gx g1 g2 gc ix q1 q2 a b c m wL w) (hk : a < 4) (hd : gx ≠ g1 ∧ gx ≠ g2 ∧ gx ≠ gc ∧ g1 ≠ g2 ∧ g1 ≠ gc ∧ g2 ≠ gc) (hB : wL.heap.size ≤ gx) : LW gx g1 g2 gc ix q1 q2 (a + 1) b c m wL (w.setCell ⟨gx, a, none⟩ (.int .i64 (ix a : Int))) := by
  obtain ⟨h1, h2, h3, h4, h5, h6, h7, h8, h9⟩ := h
  obtain ⟨d1, d2, d3, d4, d5, d6⟩ := hd
  refine ⟨fun j hj => ?_, fun j hj => ?_, fun j hj => ?_, fun j hj => rg_other (h4 j hj) (by dsimp only; omega), th_set h5, th_set h6, th_set h7, th_set h8, h9.setCell hB _⟩
  · by_cases e : j = a
    · subst e; exact set_same (by have := (h5 j (by omega)).1; rwa [Nat.zero_add] at this)
    · exact set_far (fun x => e x.symm) (h1 j (by omega))
  · exact cell_other (h2 j hj) (by dsimp only; omega)
  · exact cell_other (h3 j hj) (by dsimp only; omega)
theorem LW.p1 (h : LW gx g1 g2 gc ix q1 q2 a b c m wL w) (hk : b < 4) (hd : gx ≠ g1 ∧ gx ≠ g2 ∧ gx ≠ gc ∧ g1 ≠ g2 ∧ g1 ≠ gc ∧ g2 ≠ gc) (hB : wL.heap.size ≤ g1) : LW gx g1 g2 gc ix q1 q2 a (b + 1) c m wL (w.setCell ⟨g1, b, none⟩ (.int .u8 (q1 b))) := by
  obtain ⟨h1, h2, h3, h4, h5, h6, h7, h8, h9⟩ := h
  obtain ⟨d1, d2, d3, d4, d5, d6⟩ := hd
  refine ⟨fun j hj => ?_, fun j hj => ?_, fun j hj => ?_, fun j hj => rg_other (h4 j hj) (by dsimp only; omega), th_set h5, th_set h6, th_set h7, th_set h8, h9.setCell hB _⟩
  · exact cell_other (h1 j hj) (by dsimp only; omega)
  · by_cases e : j = b
    · subst e; exact set_same (by have := (h6 j (by omega)).1; rwa [Nat.zero_add] at this)
    · exact set_far (fun x => e x.symm) (h2 j (by omega))
  · exact cell_other (h3 j hj) (by dsimp only; omega)
theorem LW.p2 (h : LW gx g1 g2 gc ix q1 q2 a b c m wL w) (hk : c < 4) (hd : gx ≠ g1 ∧ gx ≠ g2 ∧ gx ≠ gc ∧ g1 ≠ g2 ∧ g1 ≠ gc ∧ g2 ≠ gc) (hB : wL.heap.size ≤ g2) : LW gx g1 g2 gc ix q1 q2 a b (c + 1) m wL (w.setCell ⟨g2, c, none⟩ (.int .u8 (q2 c))) := by
  obtain ⟨h1, h2, h3, h4, h5, h6, h7, h8, h9⟩ := h
  obtain ⟨d1, d2, d3, d4, d5, d6⟩ := hd
  refine ⟨fun j hj => ?_, fun j hj => ?_, fun j hj => ?_, fun j hj => rg_other (h4 j hj) (by dsimp only; omega), th_set h5, th_set h6, th_set h7, th_set h8, h9.setCell hB _⟩
  · exact cell_other (h1 j hj) (by dsimp only; omega)
  · exact cell_other (h2 j hj) (by dsimp only; omega)
  · by_cases e : j = c
    · subst e; exact set_same (by have := (h7 j (by omega)).1; rwa [Nat.zero_add] at this)
    · exact set_far (fun x => e x.symm) (h3 j (by omega))
theorem LW.pc (h : LW gx g1 g2 gc ix q1 q2 a b c m wL w) (hk : m < 4) (hd : gx ≠ g1 ∧ gx ≠ g2 ∧ gx ≠ gc ∧ g1 ≠ g2 ∧ g1 ≠ gc ∧ g2 ≠ gc) (hB : wL.heap.size ≤ gc) : LW gx g1 g2 gc ix q1 q2 a b c (m + 1) wL (w.setCells gc (m * 18) (cnR (q1 m) (q2 m) (ix m) false)) := by
  obtain ⟨h1, h2, h3, h4, h5, h6, h7, h8, h9⟩ := h
  obtain ⟨d1, d2, d3, d4, d5, d6⟩ := hd
  have far : ∀ {g j : Nat} {v : Value}, g ≠ gc → w.cell? ⟨g, j, none⟩ = some v → (w.setCells gc (m * 18) (cnR (q1 m) (q2 m) (ix m) false)).cell? ⟨g, j, none⟩ = some v := fun hne hv => by
    rw [World.cell?_setCells_out _ _ _ _ _ (fun e => absurd e hne)]; exact hv
  refine ⟨fun j hj => far d3 (h1 j hj), fun j hj => far d5 (h2 j hj), fun j hj => far d6 (h3 j hj), fun j hj => ?_, World.there_setCells h5 _ _ _, World.there_setCells h6 _ _ _, World.there_setCells h7 _ _ _, World.there_setCells h8 _ _ _, below_setCells hB _ _ h9⟩
  by_cases e : j = m
  · subst e
    exact World.rangeAt_setCells_same _ _ _ _ (th_sub h8 (by omega) (by show j * 18 + 18 ≤ 0 + 72; omega))
  · refine World.rangeAt_setCells_apart (h4 j (by omega)) _ _ _ (.inr (.inl ?_))
    show j * 18 + 18 ≤ m * 18
    omega
end
theorem LW.start (ix : Nat → Nat) (q1 q2 : Nat → Int) (w : World) (Z0 Z1 Z2 Z3 : Array Value) (t0 t1 t2 t3 : TypeId) (s0 : Z0.size = 4) (s1 : Z1.size = 4) (s2 : Z2.size = 4) (s3 : Z3.size = 72) :
    LW w.heap.size (w.heap.size + 1) (w.heap.size + 1 + 1) (w.heap.size + 1 + 1 + 1) ix q1 q2 0 0 0 0 w ((((w.alloc (.cells Z0 t0)).alloc (.cells Z1 t1)).alloc (.cells Z2 t2)).alloc (.cells Z3 t3)) := by
  have al : ∀ (W : World) (o : Obj), Below W.heap.size W (W.alloc o) := fun W o => (Below.refl _ _).alloc (Nat.le_refl _) _
  have r0 := th_keep (al _ (.cells Z3 t3)) (th_keep (al _ (.cells Z2 t2)) (th_keep (al _ (.cells Z1 t1)) (th_new w Z0 t0 s0.symm)))
  have r1 := th_keep (al _ (.cells Z3 t3)) (th_keep (al _ (.cells Z2 t2)) (th_new (w.alloc (.cells Z0 t0)) Z1 t1 s1.symm))
  have r2 := th_keep (al _ (.cells Z3 t3)) (th_new ((w.alloc (.cells Z0 t0)).alloc (.cells Z1 t1)) Z2 t2 s2.symm)
  have r3 := th_new (((w.alloc (.cells Z0 t0)).alloc (.cells Z1 t1)).alloc (.cells Z2 t2)) Z3 t3 s3.symm
  rw [show (w.alloc (.cells Z0 t0)).heap.size = w.heap.size + 1 by simp] at r1
  rw [show ((w.alloc (.cells Z0 t0)).alloc (.cells Z1 t1)).heap.size = w.heap.size + 1 + 1 by simp] at r2
  rw [show (((w.alloc (.cells Z0 t0)).alloc (.cells Z1 t1)).alloc (.cells Z2 t2)).heap.size = w.heap.size + 1 + 1 + 1 by simp] at r3
  exact ⟨fun j hj => absurd hj (by omega), fun j hj => absurd hj (by omega), fun j hj => absurd hj (by omega), fun j hj => absurd hj (by omega), r0, r1, r2, r3, ((((Below.refl _ _).alloc (Nat.le_refl _) _).alloc (by simp) _).alloc (by simp; omega) _).alloc (by simp; omega) _⟩
theorem gb_sets {w0 w : World} {r : Nat} (h : w0.grownBy w (some r)) (o : Nat) (vs : List Value) : w0.grownBy (w.setCells r o vs) (some r) := by
  induction vs generalizing o w with
  | nil => exact h
  | cons v t ih => rw [World.setCells]; exact ih (gb_set h o v) (o + 1)
theorem st_corner {w : World} {gc k : Nat} {cc : List Value} (h : w.there gc 0 72) (hk : k < 4) (l : cc.length = 18) (h1 : ∀ v ∈ cc, v.oneCell' = true) : (storeCells ⟨gc, k * 18, none⟩ cc 0).run Try.prog w = .ok () (w.setCells gc (k * 18) cc) := by
  have ht : w.there gc (k * 18) 18 := th_sub h (by omega) (by omega)
  have := run_storeCells_cells (P := Try.prog) gc (k * 18) cc 0 w (fun j hj => (ht j (by omega)).1) (fun j hj => (ht j (by omega)).2) h1
  simpa using this
theorem cnR_one' (m1 m2 : Int) (x : Nat) (sg : Bool) : ∀ v ∈ cnR m1 m2 x sg, v.oneCell' = true := fun v hv => (Array.all_eq_true_iff_forall_mem.1 (cnR_one m1 m2 x sg)) v (by simpa using hv)
theorem zt_low (x : Int) (w : World) (h0 : 0 ≤ x) (h1 : x < 8) : Calls Try.prog 8 #[.int .u8 x] w fun e w' => e = .returned (tyV (x, 0)) ∧ Below w.heap.size w w' := by
  have := zt_any x w h0 (by omega)
  rwa [show x % 8 = x by omega] at this
theorem gb_to_below {B r : Nat} {w w' : World} (h : w.grownBy w' (some r)) (hr : B ≤ r) (hB : B ≤ w.heap.size) : Below B w w' :=
  ⟨h.os, h.tape, h.output, h.size, fun k hk => h.block k (by omega) (fun e => by injection e; omega)⟩
/-- is j one of the first i indices? -/
def un (ix : Nat → Nat) (j i : Nat) : Bool := (List.range i).any fun k => ix k == j
theorem un_succ (ix : Nat → Nat) (j i : Nat) : un ix j (i + 1) = (un ix j i || (ix i == j)) := by simp [un, List.range_succ, List.any_append]
theorem un_mem {ix : Nat → Nat} {j n : Nat} : un ix j n = true ↔ ∃ i, i < n ∧ ix i = j := by simp [un]
/-- what stands in the world behind ZZcompactRules -/
def FW (gr gd gx g1 g2 gk n : Nat) (D : Nat → Nat) (al : Option Addr) (lc : Nat → Int) (ix : Nat → Nat) (q1 q2 : Nat → Int) (key : Int) (imp : Bool) (d g nv cv : Nat) (X : Nat → TY) (R : Nat → RU) (w0 w : World) : Prop :=
  RR w gr n R ∧ (∀ j, j < n → w.cell? ⟨gd, j, none⟩ = some (.pointer (some ⟨D j, 0, none⟩))) ∧ (∀ j, j < n → ∃ cs, Bk w (D j) 68 cs) ∧ (∀ j, j < 4 → w.cell? ⟨gx, j, none⟩ = some (.int .i64 (ix j : Int))) ∧ (∀ j, j < 4 → w.cell? ⟨g1, j, none⟩ = some (.int .u8 (q1 j))) ∧ (∀ j, j < 4 → w.cell? ⟨g2, j, none⟩ = some (.int .u8 (q2 j))) ∧
  (w.cell? ⟨gk, 0, none⟩ = some (.int .i32 key) ∧ w.cell? ⟨gk, 1, none⟩ = some (.int .i32 13)) ∧ Sl w al n (fun i => .int .i32 (lc i)) ∧ Bk w d 68 (dcR (.slice (some ⟨g, 0, none⟩) nv cv) key imp).toArray ∧ TR w g nv X ∧ w0.heap.size ≤ w.heap.size ∧ Below w0.heap.size w0 w
theorem FW.keep {gr gd gx g1 g2 gk n : Nat} {D : Nat → Nat} {al : Option Addr} {lc : Nat → Int} {ix : Nat → Nat} {q1 q2 : Nat → Int} {key : Int} {imp : Bool} {d g nv cv : Nat} {X : Nat → TY} {R : Nat → RU} {w0 w w' : World} (h : FW gr gd gx g1 g2 gk n D al lc ix q1 q2 key imp d g nv cv X R w0 w) (hb : Below w.heap.size w w') : FW gr gd gx g1 g2 gk n D al lc ix q1 q2 key imp d g nv cv X R w0 w' := by
  obtain ⟨h1, h2, h3, h4, h5, h6, ⟨h7, h7'⟩, h8, h9, h10, h11, h12⟩ := h
  exact ⟨h1.keep hb, fun j hj => later hb (h2 j hj), fun j hj => by obtain ⟨cs, hc⟩ := h3 j hj; exact ⟨cs, hc.keep hb⟩, fun j hj => later hb (h4 j hj), fun j hj => later hb (h5 j hj), fun j hj => later hb (h6 j hj), ⟨later hb h7, later hb h7'⟩, h8.keep hb, h9.keep hb, h10.keep hb, Nat.le_trans h11 hb.size, h12.trans (hb.mono h11)⟩
/-- the rules at the end -/
theorem r_unused {R0 : Nat → RU} {ix : Nat → Nat} {x : RU} {j : Nat} (h : un ix j 4 = false) : upR (rk R0 ix 4) (ix 3) x j = R0 j := by
  have h3 : ¬ j = ix 3 := fun e => by have : un ix j 4 = true := un_mem.2 ⟨3, by omega, e.symm⟩; rw [h] at this; cases this
  unfold upR rk
  rw [if_neg h3]
  unfold un at h
  rw [h]
  rfl
theorem r_gone {R0 : Nat → RU} {ix : Nat → Nat} {x : RU} {j : Nat} (h : un ix j 4 = true) (h3 : ¬ j = ix 3) : upR (rk R0 ix 4) (ix 3) x j = (none, 0) := by
  unfold upR rk
  rw [if_neg h3]
  unfold un at h
  rw [h]
  rfl
theorem r_new {R0 : Nat → RU} {ix : Nat → Nat} {x : RU} {j : Nat} (h3 : j = ix 3) : upR (rk R0 ix 4) (ix 3) x j = x := by
  unfold upR
  rw [if_pos h3]
end Go.Proofs.Ytgicookbgfodbac.Co
