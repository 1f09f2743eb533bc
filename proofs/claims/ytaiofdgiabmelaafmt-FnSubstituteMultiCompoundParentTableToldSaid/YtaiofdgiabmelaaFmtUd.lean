/-
  CompoundSelector.Clone, ComplexSelector.Clone.
-/
import Derived.Test.YtaiofdgiabmelaaFmtUc
import Derived.Deep.Upon
namespace Go.Proofs.YtaiofdgiabmelaaFmt.Sb
open Go.ChangeShapes Go.WideShapes Go.ChangeAt Go.RowKit Rg
set_option linter.unusedVariables false
theorem met_clone (a : Value) (w : World) : (method 379 124 a "Clone").run Tryf.prog w = .ok (72, a) w := by kernel_rfl
theorem ClS.below {g n : Nat} {N : List ByteArray} {k : Nat} {w0 w : World} (h : ClS g n N k w0 w) : Below w0.heap.size w0 w := by
  obtain ⟨P, C, h1, h2, h3, h4, h5⟩ := h
  exact h5
/-- the head of the loop: the row b3, the clone b2, the result b1 -/
def CB (b1 b2 b3 n : Nat) (N : List ByteArray) (k : Nat) (vs vn : Value) (cb : Int) (w0 w : World) : Prop :=
  ClS b3 n N k w0 w ∧ w.rangeAt b2 0 (cmc vs vn cb) ∧ w.there b2 0 6 ∧ w.there b1 0 6
theorem CB.keep {b1 b2 b3 n : Nat} {N : List ByteArray} {k : Nat} {vs vn : Value} {cb : Int} {w0 w w' : World} (h : CB b1 b2 b3 n N k vs vn cb w0 w) (hb : Below w.heap.size w w') : CB b1 b2 b3 n N k vs vn cb w0 w' :=
  ⟨h.1.keep hb, rg_keep hb h.2.1, th_keep hb h.2.2.1, th_keep hb h.2.2.2⟩
theorem ClS.row {g n : Nat} {N : List ByteArray} {k : Nat} {w0 w : World} (h : ClS g n N k w0 w) : ∃ xs, w.ownsRow w0.heap.size 56 3 (.slice (some ⟨g, 0, none⟩) n n) n xs := by
  obtain ⟨P, C, h1, h2, h3, h4, h5⟩ := h
  exact ⟨_, h3⟩
theorem ClS.rowlt {g n : Nat} {N : List ByteArray} {k : Nat} {w0 w : World} (h : ClS g n N k w0 w) : g < w.heap.size := by
  obtain ⟨xs, h⟩ := h.row
  exact (h.lt g rfl).2
theorem CB.put {b1 b2 b3 n : Nat} {N : List ByteArray} {k : Nat} {vs vn : Value} {cb : Int} {w0 w : World} (h : CB b1 b2 b3 n N k vs vn cb w0 w) (hk : k < n) (hn : n = N.length) {q : Nat} (hq : w0.heap.size ≤ q ∧ q < w.heap.size) (hqg : b3 < q) (hr : w.rangeAt q 0 (psc (N[k]'(by omega)))) (hg : w0.heap.size ≤ b3 ∧ b2 ≠ b3 ∧ b1 ≠ b3) : CB b1 b2 b3 n N (k + 1) vs vn cb w0 (w.setCells b3 (k * 3) (sbc q)) := by
  obtain ⟨h1, h2, h3, h4⟩ := h
  obtain ⟨xs, hx⟩ := h1.row
  have hth := own_there hx (k := k * 3) (m := 3) (by omega)
  exact ⟨h1.put hk hn hq hqg hr hg.1, World.rangeAt_setCells_apart h2 b3 (k * 3) (sbc q) (.inl hg.2.1), World.there_setCells h3 b3 (k * 3) (sbc q), World.there_setCells h4 b3 (k * 3) (sbc q)⟩
theorem cm_set1 {w : World} {g : Nat} {vs vn u : Value} {cb : Int} (h : w.rangeAt g 0 (cmc vs vn cb)) : (w.setCell ⟨g, 1, none⟩ u).rangeAt g 0 (cmc u vn cb) := by
  intro j v hj
  by_cases e : j = 1
  · subst e
    have : v = u := by simpa [cmc] using hj.symm
    subst this
    exact set_same (by rw [h 1 vs rfl]; rfl)
  · refine set_far (by omega) (h j v ?_)
    rw [← hj]
    match j, e with
    | 0, _ => rfl
    | 1, e => exact absurd rfl e
    | 2, _ | 3, _ | 4, _ | 5, _ | (_ + 6), _ => rfl
/-- what CompoundSelector.Clone answers -/
def CcP (N : List ByteArray) (vn : Value) (cb : Int) (w : World) (e : Ending) (w' : World) : Prop :=
  ∃ a n c, e = .returned (.agg #[.pointer none, .slice a n c, vn, .int .i32 0, .int .u8 cb, .bool false]) ∧ FSub (fun b => w.heap.size ≤ b ∧ b < w'.heap.size) w' (.slice a n c) N ∧ Below w.heap.size w w'
set_option maxRecDepth 100000 in
set_option maxHeartbeats 4000000 in
theorem ccl_any (vs : Value) (an : Option Addr) (am cn : Nat) (cb : Int) (N : List ByteArray) (X : Nat → Prop) (w : World) (hN : N.length ≤ 1048576) (hX : ∀ b, X b → b < w.heap.size) (hs : FSub X w vs N) :
    Calls Tryf.prog 34 #[.agg #[.pointer none, vs, .slice an am cn, .int .i32 0, .int .u8 cb, .bool false]] w (CcP N (.slice an am cn) cb w) := by
  obtain ⟨P, ho, hP, hPX, hPp⟩ := hs
  obtain ⟨a, c, rfl⟩ := own_slice ho
  have hq : ∀ W n' c', (binOp .neq 34 (.slice a P.length c) (.slice none n' c')).run Tryf.prog W = .ok (.bool (!a.isNone)) W := fun W n' c' => run_neq_slice_nil_any W 34 56 a P.length c n' c' (by kernel_rfl)
  cases a with
  | none =>
    have hv : (.slice none P.length c : Value) = .slice none 0 0 := by
      rcases ho.2 with ⟨h, _⟩ | ⟨g, cap, cur, h, _⟩
      · exact h
      · simp at h
    simp only [Value.slice.injEq] at hv
    obtain ⟨-, hl, rfl⟩ := hv
    have hN0 : N = [] := by rw [← hP]; simp [List.eq_nil_of_length_eq_zero hl]
    have HN0 := Lib.hid hN0
    rw [hl] at hq ⊢
    clear ho hP hPX hPp hX hl hN0
    go_enter Tryf.func34, Tryf.ntmps34
    go_wp2_with fail
    refine bodyPost_ret (v := .agg #[.pointer none, .slice none 0 0, .slice an am cn, .int .i32 0, .int .u8 cb, .bool false]) (by simp [results, Tryf.results34, go_sem]) rfl ⟨none, 0, 0, rfl, ?_, ?_⟩
    · exact ⟨[], World.ownsRow_nil _ _ _ _, by rw [HN0.out]; rfl, by simp [Value.ownBlock], by simp⟩
    · exact (((Below.refl _ _).alloc (Nat.le_refl _) _).alloc (by simp) _).alloc (by simp; omega) _
  | some x =>
    obtain ⟨i0, hi, hz0, hz1, hz2⟩ := info_parts infoSub
    have hNl : P.length = N.length := by rw [← hP, List.length_map]
    obtain ⟨m, hm⟩ : ∃ m, m = P.length := ⟨_, rfl⟩
    rw [← hm] at hq ⊢
    have hm2 : m ≤ 1048576 := by omega
    have hmk := fun W => run_make_rowN (P := Tryf.prog) 34 56 i0 _ (by kernel_rfl) hi hz0 .i64 .i64 m m (Nat.le_refl _) (by rw [hz2]; omega) (by omega) W
    rw [hz1] at hmk
    have HO := Lib.hid (And.intro ho (And.intro hPX (And.intro hPp (And.intro hX (And.intro hP hm)))))
    clear ho hP hPX hPp hX hi hz0 hz1 hz2 hm
    go_enter Tryf.func34, Tryf.ntmps34
    go_wp2_with fail
    obtain ⟨b0, hb0⟩ : ∃ b, b = w.heap.size := ⟨_, rfl⟩
    obtain ⟨b1, hb1⟩ : ∃ b, b = b0 + 1 := ⟨_, rfl⟩
    obtain ⟨b2, hb2⟩ : ∃ b, b = b1 + 1 := ⟨_, rfl⟩
    obtain ⟨b3, hb3⟩ : ∃ b, b = b2 + 1 := ⟨_, rfl⟩
    have HST : Hid (CB b1 b2 b3 m N 0 (.slice (some x) m c) (.slice an am cn) cb w ((((w.alloc (.cells #[.pointer none, .slice (some x) m c, .slice an am cn, .int .i32 0, .int .u8 cb, .bool false] 41)).alloc (.cells #[.pointer none, .slice none 0 0, .slice none 0 0, .int .i32 0, .int .u8 0, .bool false] 41)).alloc (.cells #[.pointer none, .slice (some x) m c, .slice an am cn, .int .i32 0, .int .u8 cb, .bool false] 41)).alloc (.cells (madeCells #[.nilIface, .int .i32 0, .int .i32 0] (m * 3)) 56))) := by
      have h0 : Below w.heap.size w (w.alloc (.cells #[.pointer none, .slice (some x) m c, .slice an am cn, .int .i32 0, .int .u8 cb, .bool false] 41)) := (Below.refl _ _).alloc (Nat.le_refl _) _
      have hs1 : (w.alloc (.cells #[.pointer none, .slice (some x) m c, .slice an am cn, .int .i32 0, .int .u8 cb, .bool false] 41)).heap.size = b1 := by rw [World.size_alloc]; omega
      generalize w.alloc (.cells #[.pointer none, .slice (some x) m c, .slice an am cn, .int .i32 0, .int .u8 cb, .bool false] 41) = x1 at *
      have s1 : x1.heap.size = b1 := hs1
      clear hs1
      have t1 := th_new x1 #[.pointer none, .slice none 0 0, .slice none 0 0, .int .i32 0, .int .u8 0, .bool false] 41 (n := 6) rfl
      have h1 : Below x1.heap.size x1 (x1.alloc (.cells #[.pointer none, .slice none 0 0, .slice none 0 0, .int .i32 0, .int .u8 0, .bool false] 41)) := (Below.refl _ _).alloc (Nat.le_refl _) _
      have s2 : (x1.alloc (.cells #[.pointer none, .slice none 0 0, .slice none 0 0, .int .i32 0, .int .u8 0, .bool false] 41)).heap.size = b2 := by rw [World.size_alloc, s1]; exact hb2.symm
      generalize x1.alloc _ = x2 at *
      have t2 := th_new x2 #[.pointer none, .slice (some x) m c, .slice an am cn, .int .i32 0, .int .u8 cb, .bool false] 41 (n := 6) rfl
      have r2 := rg_new x2 #[.pointer none, .slice (some x) m c, .slice an am cn, .int .i32 0, .int .u8 cb, .bool false] 41
      have h2 : Below x2.heap.size x2 (x2.alloc (.cells #[.pointer none, .slice (some x) m c, .slice an am cn, .int .i32 0, .int .u8 cb, .bool false] 41)) := (Below.refl _ _).alloc (Nat.le_refl _) _
      have s3 : (x2.alloc (.cells #[.pointer none, .slice (some x) m c, .slice an am cn, .int .i32 0, .int .u8 cb, .bool false] 41)).heap.size = b3 := by rw [World.size_alloc, s2]; exact hb3.symm
      generalize x2.alloc _ = x3 at *
      have o3 := World.ownsRow_lit (base := w.heap.size) (e := 56) (size := 3) x3 (madeCells #[.nilIface, .int .i32 0, .int .i32 0] (m * 3)) m (by omega) (by unfold maxLen; omega) (size_madeCells _ _)
      have h3 : Below x3.heap.size x3 (x3.alloc (.cells (madeCells #[.nilIface, .int .i32 0, .int .i32 0] (m * 3)) 56)) := (Below.refl _ _).alloc (Nat.le_refl _) _
      generalize x3.alloc _ = x4 at *
      rw [s1] at t1
      rw [s2] at t2 r2
      rw [s3] at o3
      have h03 : Below w.heap.size w x3 := (h0.trans (h1.mono h0.size)).trans (h2.mono (Nat.le_trans h0.size h1.size))
      refine Lib.hid ⟨⟨[], _, rfl, rfl, by simpa using o3, (by simp), h03.trans (h3.mono h03.size)⟩, rg_keep h3 r2, th_keep h3 t2, th_keep h3 (th_keep h2 t1)⟩
    rw [← hb0, ← hb1, ← hb2, ← hb3]
    generalize (World.alloc (World.alloc (World.alloc (World.alloc _ _) _) _) _ : World) = w4 at HST ⊢
    have HB3 := Lib.hid (show b3 < w4.heap.size ∧ w.heap.size ≤ b3 ∧ b2 ≠ b3 ∧ b1 ≠ b3 from ⟨HST.out.1.rowlt, by omega, by omega, by omega⟩)
    have HBS := Lib.hid (And.intro hb0 (And.intro hb1 (And.intro hb2 hb3)))
    clear hmk hb0 hb1 hb2 hb3 hq
    go_loopw [28] (fun i wr => ∃ (k : Nat), k ≤ m ∧ i = .int .i64 k ∧ Hid (CB b1 b2 b3 m N k (.slice (some x) m c) (.slice an am cn) cb w wr)) (fun i _ => m - (intOf i).toNat)
    case atStart => exact ⟨0, Nat.zero_le _, rfl, HST⟩
    case round =>
      clear HST
      obtain ⟨k, hk, rfl, HW⟩ := hrel
      by_cases hlt : k < m
      · as_aux_lemma =>
        have q0 : (0 : Int) ≤ k := by omega
        have q1 : (k : Int) < m := by omega
        obtain ⟨_, _, _, _, hPN, hmP⟩ := HO.out
        have kl : k < P.length := by omega
        obtain ⟨g, cg, hve, -, -⟩ := HO.out.1.form (by omega)
        simp only [Value.slice.injEq, Option.some.injEq] at hve
        obtain ⟨rfl, hx1, rfl⟩ := hve
        clear hx1
        have hbw : Below w.heap.size w wr := HW.out.1.below
        have r0 := own_range (f := spc) (s := 3) (L := P) (own_keep HO.out.1 hbw) (fun x => rfl) kl
        obtain ⟨p, hp⟩ : ∃ p, p = (P[k]).1 := ⟨_, rfl⟩
        have r1 : wr.rangeAt g (k * 3) (sbc p) := by rw [hp]; exact r0
        have d0 := r1 0 _ rfl
        have d1 := r1 1 _ rfl
        have d2 := r1 2 _ rfl
        simp only [Nat.add_zero] at d0
        have hPX := HO.out.2.2.1 _ (List.getElem_mem kl)
        have kn : k < N.length := by rw [← hPN, List.length_map]; exact kl
        have hnm : (P[k]).2 = N[k] := by
          have h := List.getElem_of_eq hPN (i := k) (by simpa using kl)
          simpa using h
        have HPK := Lib.hid (show wr.rangeAt p 0 (psc N[k]) from by rw [hp, ← hnm]; exact rg_keep hbw hPX.2)
        have hmt := fun W => met_clone (.pointer (some ⟨p, 0, none⟩)) W
        clear r0 r1 hbw hp hPX hnm kl hPN hmP
        go_wp2_with fail
        have hbx := heap_alloc_new wr (.cells #[.iface 124 (.pointer (some ⟨p, 0, none⟩)), .int .i32 0, .int .i32 0] 56)
        have HAL := Lib.hid (show Below wr.heap.size wr (wr.alloc (.cells #[.iface 124 (.pointer (some ⟨p, 0, none⟩)), .int .i32 0, .int .i32 0] 56)) from (Below.refl _ _).alloc (Nat.le_refl _) _)
        have f0 := cell_of_row _ _ 0 _ _ _ hbx
        have f1 := cell_of_row _ _ 1 _ _ _ hbx
        have f2 := cell_of_row _ _ 2 _ _ _ hbx
        have fz := frozen_of_row _ _ 0 _ _ hbx
        have HBL := Lib.hid (World.block_lt_of_cell? _ _ f0)
        generalize wr.alloc _ = w1 at *
        obtain ⟨bx, hbxe⟩ : ∃ b, b = wr.heap.size := ⟨_, rfl⟩
        rw [← hbxe] at f0 f1 f2 fz HBL ⊢
        have HBE := Lib.hid hbxe
        clear hbx hbxe d0 d1 d2
        refine (pcl_any p _ w1 (rg_keep HAL.out HPK.out)).mono ?_
        rintro e w2 ⟨q, rfl, hq1, hq2, hq3, hb⟩
        simp at f0 f1 f2
        have f0 := later hb f0
        have f1 := later hb f1
        have f2 := later hb f2
        have fz : w2.frozen? ⟨bx, 0, none⟩ = false := by rw [hb.frozen HBL.out]; exact fz
        have HQ := Lib.hid (And.intro hq1 (And.intro hq2 (And.intro hq3 hb)))
        clear hq1 hq2 hq3 hb
        have hbS : Below wr.heap.size wr (w2.setCell ⟨bx, 0, none⟩ (.iface 124 (.pointer (some ⟨q, 0, none⟩)))) := (HAL.out.trans (HQ.out.2.2.2.mono HAL.out.size)).setCell (by rw [HBE.out]; exact Nat.le_refl _) _
        have HWS := Lib.hid (HW.out.keep hbS)
        have hqr : (w2.setCell ⟨bx, 0, none⟩ (.iface 124 (.pointer (some ⟨q, 0, none⟩)))).rangeAt q 0 (psc N[k]) := rg_ag (heap_setCell_other w2 _ q _ (Nat.ne_of_gt (Nat.lt_of_lt_of_le HBL.out HQ.out.2.1))) HQ.out.1
        have HN := Lib.hid (HWS.out.put hlt (by rw [HO.out.2.2.2.2.2]; exact hNl) (q := q) ⟨by have := HQ.out.2.1; have := HW.out.1.below.size; have := HAL.out.size; omega, by have := HQ.out.2.2.1; simp [World.setCell]; omega⟩ (by have := HQ.out.2.1; have := HB3.out.1; have := HW.out.1.rowlt; have := HAL.out.size; omega) hqr HB3.out.2)
        have HTH := Lib.hid (own_there HWS.out.1.row.choose_spec (k := k * 3) (m := 3) (by omega))
        clear hbS hqr HWS
        have HON := Lib.hid (show (#[.iface 124 (.pointer (some ⟨q, 0, none⟩)), .int .i32 0, .int .i32 0] : Array Value).all (·.oneCell') = true from by simp [Value.oneCell'])
        go_upto_region 11 with fail
        go_wp2_with (first
          | (refine wpList_store_mid rfl 56 _ _ rfl b3 (k * 3) #[.iface 124 (.pointer (some ⟨q, 0, none⟩)), .int .i32 0, .int .i32 0] ?ha ?hv HTH.out szSub HON.out ?_; (case ha => exact rfl); (case hv => exact rfl); (change wpList _ _ _ _ _ (World.setCells _ b3 (k * 3) (sbc q))); generalize World.setCells _ _ _ _ = w6 at *))
        exact ⟨⟨k + 1, by omega, by go_num, HN⟩, by simp [intOf]; omega⟩
      · as_aux_lemma =>
        obtain rfl : k = m := by omega
        have HF := Lib.hid (HW.out.1.done (by rw [HO.out.2.2.2.2.2]; exact hNl) ⟨HW.out.1.rowlt, HB3.out.2.1⟩)
        obtain ⟨c1, hc1⟩ : ∃ u, wr.cell? ⟨b2, 1, none⟩ = some u := ⟨_, HW.out.2.1 1 _ rfl⟩
        have z1 : wr.frozen? ⟨b2, 1, none⟩ = false := by have h := (HW.out.2.2.1 1 (by omega)).2; simpa using h
        go_upto_region 14 with fail
        have hs2 : (wr.setCell ⟨b2, 1, none⟩ (.slice (some ⟨b3, 0, none⟩) k k)).rangeAt b2 0 (cmc (.slice (some ⟨b3, 0, none⟩) k k) (.slice an am cn) cb) := cm_set1 HW.out.2.1
        have ht1 : (wr.setCell ⟨b2, 1, none⟩ (.slice (some ⟨b3, 0, none⟩) k k)).there b1 0 6 := fun j hj => ⟨set_some (HW.out.2.2.2 j hj).1, by rw [World.frozen?_setCell]; exact (HW.out.2.2.2 j hj).2⟩
        have hag : ∀ b, (b3 ≤ b ∧ b < wr.heap.size) → (wr.setCell ⟨b2, 1, none⟩ (.slice (some ⟨b3, 0, none⟩) k k)).heap[b]? = wr.heap[b]? := fun b hb => heap_setCell_other wr _ b _ (by have := HBS.out; show b ≠ b2; omega)
        have HF2 := Lib.hid (HF.out.ag hag)
        have hbe : Below w.heap.size w (wr.setCell ⟨b2, 1, none⟩ (.slice (some ⟨b3, 0, none⟩) k k)) := HW.out.1.below.setCell (by have := HBS.out; show w.heap.size ≤ b2; omega) _
        have hsz : (wr.setCell ⟨b2, 1, none⟩ (.slice (some ⟨b3, 0, none⟩) k k)).heap.size = wr.heap.size := by simp [World.setCell]
        have HE := Lib.hid (And.intro hs2 (And.intro ht1 (And.intro hbe hsz)))
        obtain ⟨dC, hC, hC2⟩ := tyCmp
        clear hs2 ht1 hag hbe hsz hc1 z1 HF
        generalize wr.setCell _ _ = w5 at *
        have HON := Lib.hid (cmc_all (some ⟨b3, 0, none⟩) an k k am cn cb)
        go_wp2_with (first
          | (refine wpList_load_mid rfl 41 _ rfl b2 0 rfl (cmc (.slice (some ⟨b3, 0, none⟩) k k) (.slice an am cn) cb) dC HE.out.1 hC hC2 szCmp ?_)
          | (refine wpList_store_mid rfl 41 _ _ rfl b1 0 (cmc (.slice (some ⟨b3, 0, none⟩) k k) (.slice an am cn) cb).toArray rfl rfl HE.out.2.1 szCmp HON.out ?_))
        refine bodyPost_ret (results_cell_mid rfl _ _ b1 0 (cmc (.slice (some ⟨b3, 0, none⟩) k k) (.slice an am cn) cb) dC rfl (World.rangeAt_setCells_same _ _ _ _ HE.out.2.1) hC hC2 szCmp) rfl ⟨some ⟨b3, 0, none⟩, k, k, rfl, ?_, ?_⟩
        · refine (HF2.out.ag (fun b hb => World.heap_setCells_other w5 b1 0 _ (by have := HE.out.2.2.2; omega) (by have := HBS.out; omega))).more (fun b hb => ⟨by have := HB3.out.2.1; omega, ?_⟩)
          rw [size_setCells, HE.out.2.2.2]
          exact hb.2
        · exact below_setCells (by have := HBS.out; omega) _ _ HE.out.2.2.1
end Go.Proofs.YtaiofdgiabmelaaFmt.Sb
