/-
  substituteAmpersandsInCompoundSelector at one '&', no combinator, no results: the parent is spliced in.
-/
import Derived.Test.YtaiofdgiabmelaaFmtUf
namespace Go.Proofs.YtaiofdgiabmelaaFmt.Sb
open Go.ChangeShapes Go.WideShapes Go.ChangeAt Go.RowKit Rg
set_option linter.unusedVariables false
set_option linter.unusedSimpArgs false
theorem own_cap {w : World} {B n s : Nat} {e : TypeId} {a : Option Addr} {l c : Nat} {xs : List Value} (h : w.ownsRow B e s (.slice a l c) n xs) : n ≤ c := by
  rcases h.2 with ⟨_, h0⟩ | ⟨g, cap, cur, hv, _, _, h1, _⟩
  · omega
  · simp only [Value.slice.injEq] at hv
    omega
/-- what stands in memory: the parser's flag, the place, the closure's box, the parent's list, the two selectors -/
def WB (pp lg fb gx cx : Nat) (vp vs : Value) (N : List ByteArray) (L : List Cm) (X : Nat → Prop) (w : World) : Prop :=
  (w.cell? ⟨pp, 48, none⟩ = some (.int .u16 0) ∧ w.cell? ⟨lg, 0, none⟩ = some (.int .i32 0) ∧ w.cell? ⟨fb, 0, none⟩ = some (.slice (some ⟨gx, 0, none⟩) 1 cx) ∧ w.cell? ⟨gx, 0, none⟩ = some vp) ∧
  (X pp ∧ X lg ∧ X fb ∧ X gx) ∧ FSub X w vs N ∧ FCms X w vp L
theorem cell_ag {w w' : World} {g o : Nat} {v : Value} (hg : w'.heap[g]? = w.heap[g]?) (h : w.cell? ⟨g, o, none⟩ = some v) : w'.cell? ⟨g, o, none⟩ = some v := by
  rw [World.cell?_of_block (a := ⟨g, o, none⟩) hg]; exact h
theorem WB.ag {pp lg fb gx cx : Nat} {vp vs : Value} {N : List ByteArray} {L : List Cm} {X : Nat → Prop} {w w' : World} (h : WB pp lg fb gx cx vp vs N L X w) (ha : ∀ b, X b → w'.heap[b]? = w.heap[b]?) : WB pp lg fb gx cx vp vs N L X w' := by
  obtain ⟨⟨h1, h2, h3, h4⟩, ⟨x1, x2, x3, x4⟩, h5, h6⟩ := h
  exact ⟨⟨cell_ag (ha _ x1) h1, cell_ag (ha _ x2) h2, cell_ag (ha _ x3) h3, cell_ag (ha _ x4) h4⟩, ⟨x1, x2, x3, x4⟩, h5.ag ha, h6.ag ha⟩
theorem own_len {w : World} {B n s : Nat} {e : TypeId} {a : Option Addr} {l c : Nat} {xs : List Value} (h : w.ownsRow B e s (.slice a l c) n xs) : l = n := by
  rcases h.2 with ⟨h1, h0⟩ | ⟨g, cap, cur, hv, _⟩
  · simp only [Value.slice.injEq] at h1
    omega
  · simp only [Value.slice.injEq] at hv
    omega
/-- two boxes of six cells that the call made -/
def BX (b6 b14 : Nat) (cs6 cs14 : List Value) (row : Option Nat) (w0 w : World) : Prop := (w.rangeAt b6 0 cs6 ∧ w.there b6 0 6) ∧ (w.rangeAt b14 0 cs14 ∧ w.there b14 0 6) ∧ w0.grownBy w row ∧ w0.heap.size ≤ b6 ∧ b6 < b14
section
variable {b6 b14 : Nat} {cs6 cs14 : List Value} {row : Option Nat} {w0 w w' : World}
theorem th_ag {g o n : Nat} (hg : w'.heap[g]? = w.heap[g]?) (h : w.there g o n) : w'.there g o n := fun j hj => ⟨by rw [World.cell?_of_block (a := ⟨g, o + j, none⟩) hg]; exact (h j hj).1, by rw [World.frozen?_of_block (a := ⟨g, o + j, none⟩) hg]; exact (h j hj).2⟩
theorem BX.ag (h : BX b6 b14 cs6 cs14 row w0 w) (h6 : w'.heap[b6]? = w.heap[b6]?) (h14 : w'.heap[b14]? = w.heap[b14]?) (hg : w0.grownBy w' row) : BX b6 b14 cs6 cs14 row w0 w' :=
  ⟨⟨rg_ag h6 h.1.1, th_ag h6 h.1.2⟩, ⟨rg_ag h14 h.2.1.1, th_ag h14 h.2.1.2⟩, hg, h.2.2.2⟩
theorem BX.keep (h : BX b6 b14 cs6 cs14 row w0 w) (hb : Below w.heap.size w w') : BX b6 b14 cs6 cs14 row w0 w' :=
  h.ag (hb.block _ (th_lt h.1.2 (by omega))) (hb.block _ (th_lt h.2.1.2 (by omega))) (grown_then h.2.2.1 hb)
theorem BX.lt (h : BX b6 b14 cs6 cs14 row w0 w) : b6 < w.heap.size ∧ b14 < w.heap.size := ⟨th_lt h.1.2 (by omega), th_lt h.2.1.2 (by omega)⟩
/-- an append onto a row that is not the boxes' -/
theorem BX.grown {q : Option Nat} (h : BX b6 b14 cs6 cs14 row w0 w) (hg : w.grownBy w' q) (h6 : some b6 ≠ q) (h14 : some b14 ≠ q) (hq : ∀ x, q = some x → w0.heap.size ≤ x) : BX b6 b14 cs6 cs14 row w0 w' :=
  h.ag (hg.block _ h.lt.1 h6) (hg.block _ h.lt.2 h14) (grown_new h.2.2.1 hg hq)
theorem BX.set14 (h : BX b6 b14 cs6 cs14 row w0 w) (cs : List Value) (hl : cs.length = 6) : BX b6 b14 cs6 cs row w0 (w.setCells b14 0 cs) :=
  ⟨⟨World.rangeAt_setCells_apart h.1.1 b14 0 cs (.inl (by have := h.2.2.2.2; omega)), World.there_setCells h.1.2 b14 0 cs⟩, ⟨World.rangeAt_setCells_same _ _ _ _ (by rw [hl]; exact h.2.1.2), World.there_setCells h.2.1.2 b14 0 cs⟩, grown_set h.2.2.1 cs (by have := h.2.2.2; omega), h.2.2.2⟩
theorem BX.comb14 {vs vn : Value} {cb cb' : Int} (h : BX b6 b14 cs6 (cmc vs vn cb) row w0 w) : BX b6 b14 cs6 (cmc vs vn cb') row w0 (w.setCells b14 3 [.int .i32 0, .int .u8 cb']) :=
  ⟨⟨World.rangeAt_setCells_apart h.1.1 b14 3 _ (.inl (by have := h.2.2.2.2; omega)), World.there_setCells h.1.2 b14 3 _⟩, ⟨cm_set34 h.2.1.1, World.there_setCells h.2.1.2 b14 3 _⟩, grown_set h.2.2.1 _ (by have := h.2.2.2; omega), h.2.2.2⟩
theorem BX.comb6 {vs vn : Value} {cb cb' : Int} (h : BX b6 b14 (cmc vs vn cb) cs14 row w0 w) : BX b6 b14 (cmc vs vn cb') cs14 row w0 (w.setCells b6 3 [.int .i32 0, .int .u8 cb']) :=
  ⟨⟨cm_set34 h.1.1, World.there_setCells h.1.2 b6 3 _⟩, ⟨World.rangeAt_setCells_apart h.2.1.1 b6 3 _ (.inl (by have := h.2.2.2.2; omega)), World.there_setCells h.2.1.2 b6 3 _⟩, grown_set h.2.2.1 _ h.2.2.2.1, h.2.2.2⟩
theorem BX.subs6 {vs vn u : Value} {cb : Int} (h : BX b6 b14 (cmc vs vn cb) cs14 row w0 w) : BX b6 b14 (cmc u vn cb) cs14 row w0 (w.setCell ⟨b6, 1, none⟩ u) :=
  ⟨⟨cm_set1 h.1.1, World.there_setCells h.1.2 b6 1 [u]⟩, ⟨World.rangeAt_setCells_apart h.2.1.1 b6 1 [u] (.inl (by have := h.2.2.2.2; omega)), World.there_setCells h.2.1.2 b6 1 [u]⟩, grown_set1 h.2.2.1 _ h.2.2.2.1, h.2.2.2⟩
end
theorem BX.bothcomb {b6 b14 : Nat} {vs vn vs' vn' : Value} {cb cb' cx : Int} {row : Option Nat} {w0 w : World} (h : BX b6 b14 (cmc vs vn cb) (cmc vs' vn' cb') row w0 w) : BX b6 b14 (cmc vs vn cx) (cmc vs' vn' cx) row w0 ((w.setCells b14 3 [.int .i32 0, .int .u8 cx]).setCells b6 3 [.int .i32 0, .int .u8 cx]) := h.comb14.comb6
theorem cm_set2 {w : World} {g : Nat} {vs vn u : Value} {cb : Int} (h : w.rangeAt g 0 (cmc vs vn cb)) : (w.setCell ⟨g, 2, none⟩ u).rangeAt g 0 (cmc vs u cb) := by
  intro j v hj
  by_cases e : j = 2
  · subst e
    have : v = u := by simpa [cmc] using hj.symm
    subst this
    exact set_same (by rw [h 2 vn rfl]; rfl)
  · refine set_far (by omega) (h j v ?_)
    rw [← hj]
    match j, e with
    | 0, _ | 1, _ => rfl
    | 2, e => exact absurd rfl e
    | 3, _ | 4, _ | 5, _ | (_ + 6), _ => rfl
theorem BX.nest6 {b6 b14 : Nat} {cs14 : List Value} {row : Option Nat} {w0 w : World} {vs vn u : Value} {cb : Int} (h : BX b6 b14 (cmc vs vn cb) cs14 row w0 w) : BX b6 b14 (cmc vs u cb) cs14 row w0 (w.setCell ⟨b6, 2, none⟩ u) :=
  ⟨⟨cm_set2 h.1.1, World.there_setCells h.1.2 b6 2 [u]⟩, ⟨World.rangeAt_setCells_apart h.2.1.1 b6 2 [u] (.inl (by have := h.2.2.2.2; omega)), World.there_setCells h.2.1.2 b6 2 [u]⟩, grown_set1 h.2.2.1 _ h.2.2.2.1, h.2.2.2⟩
theorem own_ne {w : World} {B B' n n' s s' : Nat} {e e' : TypeId} {v v' : Value} {xs xs' : List Value} (h : w.ownsRow B e s v n xs) (h' : w.ownsRow B' e' s' v' n' xs') (hne : e ≠ e') : v.ownBlock = none ∨ v.ownBlock ≠ v'.ownBlock := by
  rcases h.2 with ⟨rfl, _⟩ | ⟨g, cap, cur, rfl, _, hh, _⟩
  · exact .inl rfl
  · right
    rcases h'.2 with ⟨rfl, _⟩ | ⟨g', cap', cur', rfl, _, hh', _⟩
    · simp [Value.ownBlock]
    · intro he
      have : g = g' := by simpa [Value.ownBlock] using he
      subst this
      rw [hh] at hh'
      simp at hh'
      exact hne hh'.2
theorem grown_row {w wA wB : World} {row : Option Nat} {g : Nat} (h : w.grownBy wA row) (hg : wA.grownBy wB (some g)) (hq : row = some g ∨ w.heap.size ≤ g) : w.grownBy wB row := by
  rcases hq with e | e
  · rw [← e] at hg
    exact h.trans hg
  · exact grown_new h hg (fun q hq => by injection hq with hq; omega)
/-- what the splice answers -/
def SpP (L : List Cm) (N : List ByteArray) (cl : Int) (row : Option Nat) (w : World) (e : Ending) (w' : World) : Prop :=
  ∃ v', e = .returned v' ∧ (∃ h : L ≠ [], FCms (fun b => b < w'.heap.size) w' v' (L.dropLast ++ [⟨cl, 0, (L.getLast h).N ++ N⟩])) ∧ w.grownBy w' row
set_option maxRecDepth 100000 in
set_option maxHeartbeats 8000000 in
theorem sub1_any (pp lg lc fb gx cx : Nat) (vp vs : Value) (N : List ByteArray) (L : List Cm) (X : Nat → Prop) (ra : Option Addr) (rc B : Nat) (st : Int) (w : World) (hst : st = 0 ∨ st = 1) (hN : N.length ≤ 1048576) (hL : 2 ≤ L.length) (hL2 : L.length ≤ 1048576) (h0 : ∀ c ∈ L, c.am = 0 ∧ c.N.length ≤ 1048576)
    (hX : ∀ b, X b → b < w.heap.size) (hrow : ∀ b, X b → some b ≠ (Value.slice ra 0 rc).ownBlock) (hw : WB pp lg fb gx cx vp vs N L X w) (hr : ownC w B (.slice ra 0 rc) 0 []) (hB : B ≤ w.heap.size) :
    Calls Tryf.prog 17 #[.pointer (some ⟨pp, 0, none⟩), .agg #[.pointer none, vs, .slice (some ⟨lg, 0, none⟩) 1 lc, .int .i32 0, .int .u8 0, .bool false], .func (.func 28) #[] #[.pointer (some ⟨fb, 0, none⟩)], .slice ra 0 rc, .int .u8 st] w
      (SpP L N (if st = 1 then 0 else (L.getLast?.map (·.cb)).getD 0) (Value.slice ra 0 rc).ownBlock w) := by
  obtain ⟨P, ho, hP, hPX, hPp⟩ := hw.2.2.1
  obtain ⟨a, c, rfl⟩ := own_slice ho
  obtain ⟨R, hro, hR, hRX, hRm⟩ := hw.2.2.2
  obtain ⟨pa, pc, rfl⟩ := own_slice hro
  obtain ⟨m, hm⟩ : ∃ m, m = P.length := ⟨_, rfl⟩
  obtain ⟨l, hl⟩ : ∃ l, l = R.length := ⟨_, rfl⟩
  have hlL : l = L.length := by rw [hl, ← hR, List.length_map]
  rw [← hm, ← hl] at hw
  obtain ⟨pg, cg, hve, -, -⟩ := hro.form (by omega)
  simp only [Value.slice.injEq] at hve
  obtain ⟨rfl, hx1, rfl⟩ := hve
  rw [← hm]
  have HW := Lib.hid hw
  have HLN := Lib.hid (And.intro hm (And.intro hl (And.intro hlL (And.intro hX hrow))))
  have HR := Lib.hid (And.intro hr hB)
  have HL := Lib.hid (And.intro hL (And.intro hL2 (And.intro hN h0)))
  have hl2 : 2 ≤ l := by omega
  have hl3 : l ≤ 1048576 := by omega
  obtain ⟨k, hk⟩ : ∃ k, l = k + 1 := ⟨l - 1, by omega⟩
  subst hk
  obtain ⟨dC, hC, hC2⟩ := tyCmp
  clear ho hP hPX hPp hro hR hRX hRm hm hl hlL hx1 hr hB hX hrow hN hL hL2 h0
  obtain ⟨⟨d0, d1, d2, d3⟩, -, -, -⟩ := hw
  have HD := Lib.hid (And.intro d0 (And.intro d2 d3))
  clear d0 d2 d3
  go_enter Tryf.func17, Tryf.ntmps17
  go_upto_block 0 with fail
  have HG := Lib.hid (show (w.alloc (.cells #[.pointer none, .slice a m c, .slice (some ⟨lg, 0, none⟩) 1 lc, .int .i32 0, .int .u8 0, .bool false] 41)).rangeAt w.heap.size 0 (cmc (.slice a m c) (.slice (some ⟨lg, 0, none⟩) 1 lc) 0) ∧ (w.alloc (.cells #[.pointer none, .slice a m c, .slice (some ⟨lg, 0, none⟩) 1 lc, .int .i32 0, .int .u8 0, .bool false] 41)).there w.heap.size 0 6 ∧ Below w.heap.size w (w.alloc (.cells #[.pointer none, .slice a m c, .slice (some ⟨lg, 0, none⟩) 1 lc, .int .i32 0, .int .u8 0, .bool false] 41)) from
    ⟨rg_new w #[.pointer none, .slice a m c, .slice (some ⟨lg, 0, none⟩) 1 lc, .int .i32 0, .int .u8 0, .bool false] 41, th_new w _ _ rfl, (Below.refl _ _).alloc (Nat.le_refl _) _⟩)
  have d1 := alloc_cell d1 (.cells #[.pointer none, .slice a m c, .slice (some ⟨lg, 0, none⟩) 1 lc, .int .i32 0, .int .u8 0, .bool false] 41)
  obtain ⟨b6, hb6⟩ : ∃ b, b = w.heap.size := ⟨_, rfl⟩
  rw [← hb6]
  have HB6 := Lib.hid hb6
  rw [← hb6] at HG
  clear hb6
  generalize w.alloc _ = w1 at *
  refine wp_block ?_
  refine wp_loop_rounds 2 ?_
  rw [rounds_succ]
  go_wp2_with fail
  have hba : Below w1.heap.size w1 (w1.alloc (.cells #[.int .i32 0] 37)) := (Below.refl _ _).alloc (Nat.le_refl _) _
  have hbw : Below w.heap.size w (w1.alloc (.cells #[.int .i32 0] 37)) := by have h := HG.out.2.2; rw [HB6.out] at h; exact h.trans (hba.mono h.size)
  have HG1 := Lib.hid (And.intro (rg_keep hba HG.out.1) (And.intro (th_keep hba HG.out.2.1) hbw))
  clear hba hbw HG d1
  generalize w1.alloc _ = w2 at *
  refine (fn_any fb gx cx (some ⟨pg, 0, none⟩) (k + 1) pc w2 (later HG1.out.2.2 HD.out.2.1) (later HG1.out.2.2 HD.out.2.2)).mono ?_
  rintro e w3 ⟨rfl, hb⟩
  have HG3 := Lib.hid (show w3.rangeAt b6 0 (cmc (.slice a m c) (.slice (some ⟨lg, 0, none⟩) 1 lc) 0) ∧ w3.there b6 0 6 ∧ Below w.heap.size w w3 from ⟨rg_keep hb HG1.out.1, th_keep hb HG1.out.2.1, HG1.out.2.2.trans (hb.mono HG1.out.2.2.size)⟩)
  clear hb HG1
  go_upto_region 6 with fail
  have h1 : Below w3.heap.size w3 (w3.alloc (.cells #[.slice (some ⟨pg, 0, none⟩) (k + 1) pc] 44)) := (Below.refl _ _).alloc (Nat.le_refl _) _
  have r1 := rg_new w3 #[.slice (some ⟨pg, 0, none⟩) (k + 1) pc] 44
  have h2 : Below (w3.alloc (.cells #[.slice (some ⟨pg, 0, none⟩) (k + 1) pc] 44)).heap.size (w3.alloc (.cells #[.slice (some ⟨pg, 0, none⟩) (k + 1) pc] 44)) ((w3.alloc (.cells #[.slice (some ⟨pg, 0, none⟩) (k + 1) pc] 44)).alloc (.cells #[.pointer none, .slice none 0 0, .slice none 0 0, .int .i32 0, .int .u8 0, .bool false] 41)) := (Below.refl _ _).alloc (Nat.le_refl _) _
  have t2 := th_new (w3.alloc (.cells #[.slice (some ⟨pg, 0, none⟩) (k + 1) pc] 44)) #[.pointer none, .slice none 0 0, .slice none 0 0, .int .i32 0, .int .u8 0, .bool false] 41 (n := 6) rfl
  have z2 : (w3.alloc (.cells #[.slice (some ⟨pg, 0, none⟩) (k + 1) pc] 44)).heap.size = w3.heap.size + 1 := World.size_alloc _ _
  rw [z2] at t2
  have h12 := h1.trans (h2.mono h1.size)
  have HG4 := Lib.hid (And.intro (rg_keep h12 HG3.out.1) (And.intro (th_keep h12 HG3.out.2.1) (And.intro (HG3.out.2.2.trans (h12.mono HG3.out.2.2.size)) (And.intro (rg_keep h2 r1) (And.intro t2 HG3.out.2.2.size)))))
  have h613 := th_lt HG3.out.2.1 (by omega)
  clear h1 r1 h2 t2 z2 h12 HG3
  generalize World.alloc (World.alloc _ _) _ = w4 at *
  obtain ⟨b13, hb13⟩ : ∃ b, b = w3.heap.size := ⟨_, rfl⟩
  obtain ⟨b14, hb14⟩ : ∃ b, b = b13 + 1 := ⟨_, rfl⟩
  rw [← hb13] at HG4 ⊢
  rw [← hb14] at HG4 ⊢
  have HB14 := Lib.hid (show b6 < b13 ∧ b13 < b14 ∧ w.heap.size ≤ b6 from ⟨by omega, by omega, by have := HB6.out; omega⟩)
  clear hb13 hb14 h613
  have c64 := HG4.out.1 4 _ rfl
  have c13 := HG4.out.2.2.2.1 0 _ rfl
  simp only [Nat.zero_add] at c64 c13
  have hl1 : (((k + 1 : Nat) : Int) == 1) = false := by rw [beq_eq_false_iff_ne]; omega
  go_upto_region 8 with fail
  have hX4 : ∀ b, X b → b < w4.heap.size := fun b h => Nat.lt_of_lt_of_le (HLN.out.2.2.2.1 b h) HG4.out.2.2.1.size
  have hw4 := HW.out.ag (ag_below HLN.out.2.2.2.1 HG4.out.2.2.1)
  obtain ⟨R2, hro, hR, hRX, hRm⟩ := hw4.2.2.2
  have hkp : k ≤ pc := by have h := own_cap hro; have h2 := HLN.out.2.2.1; have h3 := congrArg List.length hR; rw [List.length_map] at h3; omega
  have hRl : R2.length = k + 1 := by
    have h := HLN.out.2.2.1
    rw [← hR, List.length_map] at h
    omega
  have hnews : ∀ j u, ((R2.take k).flatMap Cr.cells)[j]? = some u → w4.cell? ((⟨pg, 0, none⟩ : Addr).add j) = some u := fun j u hu => by
    refine hro.cells (g := pg) rfl j u ?_
    rw [show R2.flatMap Cr.cells = (R2.take k).flatMap Cr.cells ++ (R2.drop k).flatMap Cr.cells by rw [← List.flatMap_append, List.take_append_drop], List.getElem?_append_left (List.getElem?_eq_some_iff.1 hu).1]
    exact hu
  have hone : ∀ u ∈ (R2.take k).flatMap Cr.cells, u.oneCell' = true := fun u hu => by
    simp only [List.mem_flatMap] at hu
    obtain ⟨r, hr, hu⟩ := hu
    exact (hRm r (List.mem_of_mem_take hr)).one u hu
  have hnl : ((R2.take k).flatMap Cr.cells).length = k * 6 := by rw [flat_len Cr.cells (s := 6) (fun _ => rfl), List.length_take]; congr 1; omega
  have hre := own_range (f := Cr.cells) (s := 6) (L := R2) (by rw [hRl] at hro ⊢; exact hro) (fun x => rfl) (i := k) (by omega)
  obtain ⟨rl, hrl⟩ : ∃ r, r = R2[k] := ⟨_, rfl⟩
  have hrlm := hRm _ (List.getElem_mem (show k < R2.length by omega))
  rw [← hrl] at hre hrlm
  have hlast : ∃ h : L ≠ [], L.getLast h = rl.m ∧ L.dropLast = (R2.take k).map (·.m) := by
    have hne : L ≠ [] := fun e => by have := HLN.out.2.2.1; rw [e] at this; simp at this
    refine ⟨hne, ?_, ?_⟩
    · rw [List.getLast_eq_getElem]
      have h := List.getElem_of_eq hR.symm (i := L.length - 1) (by have := HLN.out.2.2.1; omega)
      rw [h, List.getElem_map, hrl]
      congr 2
      have := HLN.out.2.2.1
      omega
    · rw [List.dropLast_eq_take, ← hR, List.length_map, hRl, ← List.map_take]
      rfl
  have HLAST := Lib.hid hlast
  have HRM := Lib.hid (And.intro hRm (And.intro hrlm (And.intro hre hX4)))
  have HRL := Lib.hid hRl
  have HNW := Lib.hid (And.intro hnews (And.intro hone hnl))
  have HOR := Lib.hid (own_zero (own_keep HR.out.1 HG4.out.2.2.1))
  obtain ⟨i0, hi, hz0, hz1, hz2⟩ := info_parts infoCmp
  have HI := Lib.hid (And.intro hi (And.intro hz0 (And.intro hz1 hz2)))
  clear hX4 hw4 hro hR hRX hRm hRl hnews hone hnl hre hrl hrlm hlast hi hz0 hz1 hz2 c64 hl1
  go_upto_region 9 with (first
    | (at_builtin
       refine wpList_append_lies _ rfl (.tmp 56) (.tmp 60) _ rfl 0 41 i0 _ 6 72 Tryf.underlying31 HI.out.1 HI.out.2.1 HI.out.2.2.1 HI.out.2.2.2 rfl (by omega) (.slice ra 0 rc) 0 [] ?hs HOR.out ⟨pg, 0, none⟩ k pc ((R2.take k).flatMap Cr.cells) ?hx HNW.out.2.2 HNW.out.1 HNW.out.2.1 (by omega) (by unfold maxLen; omega) (by omega) (Nat.zero_le _) w4.heap.size rfl ?_; (case hs => exact rfl); (case hx => exact rfl)
       intro g2 cap w5 hown hgrow hat hlt3
       rw [Nat.zero_add, List.nil_append] at hown))
  have hrb : ∀ x, (Value.slice ra 0 rc).ownBlock = some x → x < w.heap.size := fun x hx => (HR.out.1.lt x hx).2
  have hne6 : ∀ b, w.heap.size ≤ b → some b ≠ (Value.slice ra 0 rc).ownBlock := fun b hb e => by have := hrb b e.symm; omega
  have hg05 : w.grownBy w5 (Value.slice ra 0 rc).ownBlock := (grown_below HG4.out.2.2.1 _).trans hgrow
  have hX5 : ∀ b, X b → w5.heap[b]? = w4.heap[b]? := fun b h => hgrow.block b (HRM.out.2.2.2 b h) (HLN.out.2.2.2.2 b h)
  have hBX : BX b6 b14 (cmc (.slice a m c) (.slice (some ⟨lg, 0, none⟩) 1 lc) 0) [] (Value.slice ra 0 rc).ownBlock w w5 :=
    BX.ag (w := w4) ⟨⟨HG4.out.1, HG4.out.2.1⟩, ⟨fun j v hj => by simp at hj, HG4.out.2.2.2.2.1⟩, grown_below HG4.out.2.2.1 _, HB14.out.2.2, by have := HB14.out; omega⟩ (hgrow.block _ (th_lt HG4.out.2.1 (by omega)) (hne6 _ HB14.out.2.2)) (hgrow.block _ (th_lt HG4.out.2.2.2.2.1 (by omega)) (hne6 _ (by have := HB14.out; omega))) hg05
  have hb13 : w5.cell? ⟨b13, 0, none⟩ = some (.slice (some ⟨pg, 0, none⟩) (k + 1) pc) := cell_ag (hgrow.block _ (World.block_lt_of_cell? w4 _ c13) (hne6 _ (by have := HB14.out; omega))) c13
  have hXpg : X pg := by obtain ⟨R9, _, _, h9, _⟩ := HW.out.2.2.2; exact h9 pg rfl
  have hre5 : w5.rangeAt pg (k * 6) rl.cells := rg_ag (hX5 pg hXpg) HRM.out.2.2.1
  have hg2 : g2 ≠ b6 ∧ g2 ≠ b14 := by
    rcases hat with h | h
    · have := hrb g2 h
      have := HB14.out
      omega
    · have := th_lt HG4.out.2.1 (by omega)
      have := th_lt HG4.out.2.2.2.2.1 (by omega)
      omega
  have hg2x : ∀ b, X b → b ≠ g2 := fun b h e => by
    rcases hat with h2 | h2
    · exact HLN.out.2.2.2.2 b h (by rw [e, h2])
    · have := HRM.out.2.2.2 b h
      omega
  have hg2w : (Value.slice ra 0 rc).ownBlock = some g2 ∨ w.heap.size ≤ g2 := by
    rcases hat with h2 | h2
    · exact .inl h2
    · have := HG4.out.2.2.1.size
      exact .inr (by omega)
  have HGX := Lib.hid (And.intro hg2x hg2w)
  have HX5 := Lib.hid hBX
  have HO5 := Lib.hid (And.intro hown (And.intro hg2 (And.intro hg05 hX5)))
  have HRE := Lib.hid hre5
  obtain ⟨⟨Pl, hPl1, hPl2, hPl3, hPl4⟩, lan, lcn, hlvn, -⟩ := HRM.out.2.1
  obtain ⟨vsl, vnl, ml⟩ := rl
  dsimp only at hPl1 hPl2 hlvn
  obtain ⟨sa, sc, hsv⟩ := own_slice hPl1
  subst hsv
  subst hlvn
  obtain ⟨cbl, aml, Nl⟩ := ml
  dsimp only at hPl2
  clear hg2x hg2w hrb hne6 hg05 hX5 hBX hXpg hre5 hg2 hown hgrow hat hlt3 c13 HNW HOR
  obtain ⟨sn, hsn⟩ : ∃ n, n = Pl.length := ⟨_, rfl⟩
  have HPL := Lib.hid (And.intro hPl1 (And.intro hPl2 (And.intro hPl3 (And.intro hPl4 hsn))))
  have hsn2 := hsn
  clear hPl1 hPl2 hPl3 hPl4 hsn
  have HONE := Lib.hid (cmc_all sa lan sn sc aml lcn cbl)
  have HRE2 := Lib.hid (show w5.rangeAt pg (k * 6) (cmc (.slice sa sn sc) (.slice lan aml lcn) cbl) from by rw [hsn2]; exact HRE.out)
  have HX6 := Lib.hid (HX5.out.set14 (cmc (.slice sa sn sc) (.slice lan aml lcn) cbl) rfl)
  have HO6 := Lib.hid (And.intro (own_fars (b := b14) (by simp [Value.ownBlock]; exact HO5.out.2.1.2) (cmc (.slice sa sn sc) (.slice lan aml lcn) cbl) 0 HO5.out.1) (fun b (h : X b) => World.heap_setCells_other w5 b14 0 (cmc (.slice sa sn sc) (.slice lan aml lcn) cbl) (i := b) (Nat.lt_of_lt_of_le (HLN.out.2.2.2.1 b h) HX5.out.2.2.1.size) (by have := HLN.out.2.2.2.1 b h; have := HX5.out.2.2.2; omega)))
  go_upto_region 10 with (first
    | (refine wpList_load_mid rfl 41 _ rfl pg (k * 6) rfl (cmc (.slice sa sn sc) (.slice lan aml lcn) cbl) dC HRE2.out hC hC2 szCmp ?_)
    | (refine wpList_store_mid rfl 41 _ _ rfl b14 0 #[.pointer none, .slice sa sn sc, .slice lan aml lcn, .int .i32 0, .int .u8 cbl, .bool false] ?ha ?hv HX5.out.2.1.2 szCmp HONE.out ?_; (case ha => exact rfl); (case hv => exact rfl); (change wpList _ _ _ _ _ (World.setCells _ b14 0 (cmc (.slice sa sn sc) (.slice lan aml lcn) cbl))); generalize World.setCells _ _ _ _ = w6 at *))
  have e3 := HX6.out.2.1.1 3 _ rfl
  have e4 := HX6.out.2.1.1 4 _ rfl
  have f3 := HX6.out.1.1 3 _ rfl
  have f4 := HX6.out.1.1 4 _ rfl
  have ze3 := (HX6.out.2.1.2 3 (by omega)).2
  have ze4 := (HX6.out.2.1.2 4 (by omega)).2
  have zf3 := (HX6.out.1.2 3 (by omega)).2
  have zf4 := (HX6.out.1.2 4 (by omega)).2
  simp only [Nat.zero_add] at e3 e4 f3 f4 ze3 ze4 zf3 zf4
  have HNE := Lib.hid HO5.out.2.1
  have HPA := Lib.hid (show ∀ b, X b → w4.heap[b]? = w.heap[b]? from fun b h => (HG4.out.2.2.1.block b (HLN.out.2.2.2.1 b h)))
  have hne146 : b6 ≠ b14 := by have := HX6.out.2.2.2; omega
  clear HRE2 HX5 HO5 HRE hsn2 hb13
  have hNl : Nl.length ≤ 1048576 := by
    obtain ⟨h, h1, _⟩ := HLAST.out
    have := (HL.out.2.2.2 _ (List.getLast_mem h)).2
    rw [h1] at this
    exact this
  have hcb : (L.getLast?.map (·.cb)).getD 0 = cbl := by
    obtain ⟨h, h1, _⟩ := HLAST.out
    rw [List.getLast?_eq_some_getLast h, h1]
    rfl
  have HCB := Lib.hid hcb
  have hsnb : sn ≤ 1048576 := by have h := HPL.out; rw [h.2.2.2.2]; have h2 := congrArg List.length h.2.1; rw [List.length_map] at h2; omega
  have hmb : m ≤ 1048576 := by
    have h := HLN.out.1
    obtain ⟨P3, h3, h4, _⟩ := HW.out.2.2.1
    have h5 := HL.out.2.2.1
    rw [← h4, List.length_map] at h5
    have h6 := own_len h3
    omega
  obtain ⟨i1, ji, jz0, jz1, jz2⟩ := info_parts infoSub
  have HJ := Lib.hid (And.intro ji (And.intro jz0 (And.intro jz1 jz2)))
  clear ji jz0 jz1 jz2 hcb hNl
  rcases hst with rfl | rfl
  · have HX7 := Lib.hid (show BX b6 b14 (cmc (.slice a m c) (.slice (some ⟨lg, 0, none⟩) 1 lc) cbl) (cmc (.slice sa sn sc) (.slice lan aml lcn) cbl) (Value.slice ra 0 rc).ownBlock w ((w6.setCell ⟨b6, 3, none⟩ (.int .i32 0)).setCell ⟨b6, 4, none⟩ (.int .u8 cbl)) from HX6.out.comb6)
    have HO7 := Lib.hid (show ownC ((w6.setCell ⟨b6, 3, none⟩ (.int .i32 0)).setCell ⟨b6, 4, none⟩ (.int .u8 cbl)) 0 (.slice (some ⟨g2, 0, none⟩) k cap) k ((R2.take k).flatMap Cr.cells) from own_fars (b := b6) (by simp [Value.ownBlock]; exact HNE.out.1) [.int .i32 0, .int .u8 cbl] 3 HO6.out.1)
    -- <part
    go_upto_region 19 with fail
    clear e3 e4 f3 f4 ze3 ze4 zf3 zf4
    generalize World.setCell (World.setCell _ _ _) _ _ = w7 at *
    have hxa : ∀ b, X b → w7.heap[b]? = w.heap[b]? := fun b h => HX7.out.2.2.1.block b (HLN.out.2.2.2.1 b h) (HLN.out.2.2.2.2 b h)
    have hPl7 : w7.ownsRow 0 56 3 (.slice sa sn sc) sn (Pl.flatMap spc) := by
      have h := HPL.out.1
      have h2 := own_ag (w' := w7) h (fun g hg => (hxa g (HPL.out.2.2.1 g hg)).trans (HPA.out g (HPL.out.2.2.1 g hg)).symm)
      rw [← HPL.out.2.2.2.2] at h2
      exact h2
    obtain ⟨Ps, hPs1, hPs2, hPs3, hPs4⟩ := HW.out.2.2.1.ag hxa
    have hml : m = Ps.length := own_len hPs1
    rw [← hml] at hPs1
    have HS7 := Lib.hid (And.intro hPl7 (And.intro hPs1 (And.intro hPs2 (And.intro (fun x (hx : x ∈ Ps) => (hPs4 x hx).2) (And.intro hml hxa)))))
    have g0 := HX7.out.2.1.1 0 _ rfl
    have g1 := HX7.out.2.1.1 1 _ rfl
    simp only [Nat.zero_add] at g0 g1
    have HS7x := Lib.hid (fun x (hx : x ∈ Ps) => (hPs4 x hx).1)
    clear hPl7 hPs1 hPs2 hPs3 hPs4 hml hxa
    go_upto_region 26 with (first
      | (at_builtin
         refine wpl_app2 rfl (.tmp 130) (.tmp 132) _ rfl w.heap.size 56 i1 _ 3 24 Tryf.underlying34 HJ.out.1 HJ.out.2.1 HJ.out.2.2.1 HJ.out.2.2.2 rfl (by omega) (.slice none 0 0) 0 [] ?hs (World.ownsRow_nil _ _ _ _) (.slice sa sn sc) 0 sn (Pl.flatMap spc) ?hx HS7.out.1 (spc_one _) (by unfold maxLen; omega) (by omega) HX7.out.2.2.1.size ?_; (case hs => exact rfl); (case hx => exact rfl)
         intro v1 w8 hown1 hgrow1 hat1
         rw [Nat.zero_add, List.nil_append] at hown1
         obtain ⟨p1, c1, hv1⟩ := own_slice hown1
         subst hv1))
    have hX8 := HX7.out.grown hgrow1 (by simp [Value.ownBlock]) (by simp [Value.ownBlock]) (by simp [Value.ownBlock])
    have HO8 := Lib.hid (HO7.out.kept hgrow1 (.inr (by simp [Value.ownBlock])))
    have hxa8 : ∀ b, X b → w8.heap[b]? = w7.heap[b]? := fun b h => (hX8.2.2.1.block b (HLN.out.2.2.2.1 b h) (HLN.out.2.2.2.2 b h)).trans (HS7.out.2.2.2.2.2 b h).symm
    have HX8 := Lib.hid hX8
    have HV1 := Lib.hid (And.intro hown1 (And.intro hxa8 (show ∀ x, (Value.slice p1 sn c1).ownBlock = some x → w7.heap.size ≤ x from fun x hx => by
      rcases hat1 with h | h
      · rw [h] at hx; simp [Value.ownBlock] at hx
      · rw [h] at hx; injection hx with hx; omega)))
    clear hX8 hxa8 hown1 hgrow1 hat1 HO7 g0 g1
    by_cases hs0 : sn = 0
    · subst hs0
      have hPl0 : Pl = [] := List.eq_nil_of_length_eq_zero HPL.out.2.2.2.2.symm
      have hNl0 : Nl = [] := by rw [← HPL.out.2.1, hPl0]; rfl
      go_wp2_with fail
      have HXq := HX8
      have HOq := HO8
      have hxa8 : ∀ b, X b → w8.heap[b]? = w.heap[b]? := fun b h => HX8.out.2.2.1.block b (HLN.out.2.2.2.1 b h) (HLN.out.2.2.2.2 b h)
      obtain ⟨Q, hQ1, hQ2, hQ3, hQ4⟩ := HW.out.2.2.1.ag hxa8
      have hmq : m = Q.length := own_len hQ1
      rw [← hmq] at hQ1
      have hq6 : (Value.slice a m c).ownBlock ≠ some b6 := fun e => by have := HLN.out.2.2.2.1 _ (hQ3 b6 e); have := HX8.out.2.2.2; omega
      have HQ := Lib.hid (And.intro hQ1 (And.intro (show Q.map (·.2) = Nl ++ N by rw [hNl0]; exact hQ2) (And.intro hQ4 (And.intro hxa8 (And.intro hmq hq6)))))
      clear hPl0 hNl0 hxa8 hQ1 hQ2 hQ3 hQ4 hmq hq6
      have c62 := HXq.out.1.1 2 _ rfl
      have c61 := HXq.out.1.1 1 _ rfl
      have z62 := (HXq.out.1.2 2 (by omega)).2
      simp only [Nat.zero_add] at c62 c61 z62
      rw [rounds_succ]
      go_wp2_with fail
      clear c62 c61 z62
      have HXS := Lib.hid (HXq.out.nest6 (u := .slice none 0 0))
      have hOS : ownC (w8.setCell ⟨b6, 2, none⟩ (.slice none 0 0)) 0 (.slice (some ⟨g2, 0, none⟩) k cap) k ((R2.take k).flatMap Cr.cells) := own_fars (b := b6) (by simp [Value.ownBlock]; exact HNE.out.1) [.slice none 0 0] 2 HOq.out
      have hxS : ∀ b, X b → (w8.setCell ⟨b6, 2, none⟩ (.slice none 0 0)).heap[b]? = w8.heap[b]? := fun b h => heap_setCell_other w8 _ b _ (by have := HLN.out.2.2.2.1 b h; have := HXq.out.2.2.2; show b ≠ b6; omega)
      have hq6 : ((.slice a m c) : Value).ownBlock ≠ some b6 := HQ.out.2.2.2.2.2
      have hQS : (w8.setCell ⟨b6, 2, none⟩ (.slice none 0 0)).ownsRow 0 56 3 (.slice a m c) m (Q.flatMap spc) := own_fars hq6 [.slice none 0 0] 2 HQ.out.1
      have HQS := Lib.hid (And.intro hQS (And.intro HQ.out.2.1 (And.intro (show ∀ x ∈ Q, X x.1 ∧ (w8.setCell ⟨b6, 2, none⟩ (.slice none 0 0)).rangeAt x.1 0 (psc x.2) from fun x hx => ⟨(HQ.out.2.2.1 x hx).1, rg_ag (hxS _ (HQ.out.2.2.1 x hx).1) (HQ.out.2.2.1 x hx).2⟩) (And.intro (fun b (h : X b) => (hxS b h).trans (HQ.out.2.2.2.1 b h)) (And.intro HQ.out.2.2.2.2.1 hOS)))))
      clear hOS hxS hq6 hQS HQ HXq HOq
      generalize w8.setCell _ _ = wS at *
      go_loopw [147] (fun i wr => ∃ (z : Nat), z ≤ m ∧ i = .int .i64 (z : Nat) ∧ Hid (Below wS.heap.size wS wr)) (fun i _ => m - (intOf i).toNat)
      case atStart => exact ⟨0, Nat.zero_le _, rfl, Lib.hid (Below.refl _ _)⟩
      case round =>
        obtain ⟨z, hz, rfl, HBW⟩ := hrel
        by_cases hlt : z < m
        · as_aux_lemma =>
          have hmm : m ≤ maxLen := own_le HQS.out.1
          unfold maxLen at hmm
          have q0 : (0 : Int) ≤ z := by omega
          have q1 : (z : Int) < (m : Nat) := by omega
          have kl : z < Q.length := by have := HQS.out.2.2.2.2.1; omega
          obtain ⟨gq, cq, hve, -, -⟩ := HQS.out.1.form (by omega)
          simp only [Value.slice.injEq] at hve
          obtain ⟨rfl, hx1, rfl⟩ := hve
          clear hx1
          have r0 := own_range (f := spc) (s := 3) (L := Q) (by have h := own_keep HQS.out.1 HBW.out; rw [HQS.out.2.2.2.2.1] at h; exact h) (fun x => rfl) kl
          obtain ⟨p, hp⟩ : ∃ p, p = (Q[z]).1 := ⟨_, rfl⟩
          have r1 : wr.rangeAt gq (z * 3) (sbc p) := by rw [hp]; exact r0
          have y0 := r1 0 _ rfl
          have y1 := r1 1 _ rfl
          have y2 := r1 2 _ rfl
          simp only [Nat.add_zero] at y0
          have hta := fun W => ta_no p W
          clear r0 r1 hp kl
          go_wp2_with fail
          have hal : Below wr.heap.size wr (wr.alloc (.cells #[.iface 124 (.pointer (some ⟨p, 0, none⟩)), .int .i32 0, .int .i32 0] 56)) := (Below.refl _ _).alloc (Nat.le_refl _) _
          exact ⟨⟨z + 1, by omega, by go_num, Lib.hid (HBW.out.trans (hal.mono HBW.out.size))⟩, by simp [intOf]; omega⟩
        · as_aux_lemma =>
          rw [show z = m by omega]
          clear hlt hz
          have HXR := Lib.hid (HXS.out.keep HBW.out)
          have HOR2 := Lib.hid (own_keep HQS.out.2.2.2.2.2 HBW.out)
          have HO2 := Lib.hid (HOR2.out.alloc (.cells #[.pointer none, (.slice a m c), .slice none 0 0, .int .i32 0, .int .u8 cbl, .bool false] 41))
          go_wp2_with (first
            | (refine wpList_load_mid rfl 41 _ rfl b6 0 rfl (cmc (.slice a m c) (.slice none 0 0) cbl) dC HXR.out.1.1 hC hC2 szCmp ?_)
            | (refine wpl_bs1 rfl 31 (.tmp 202) rfl _ _ _ ?hx (bs_cmp a none m c 0 0 cbl wr) ?_; case hx => (show _ = _; rfl))
            | (at_builtin
               refine wpList_append_lies _ rfl (.tmp 201) (.tmp 203) _ rfl 0 41 i0 _ 6 72 Tryf.underlying31 HI.out.1 HI.out.2.1 HI.out.2.2.1 HI.out.2.2.2 rfl (by omega) (.slice (some ⟨g2, 0, none⟩) k cap) k ((R2.take k).flatMap Cr.cells) (by rfl) HO2.out ⟨wr.heap.size, 0, none⟩ 1 1 (cmc (.slice a m c) (.slice none 0 0) cbl) (by rfl) (by rfl) (World.news_of_block (heap_alloc_new wr _)) (cmc_one _ _ _ _ _ _ _) (by omega) (by unfold maxLen; omega) (by omega) (Nat.zero_le _) (wr.heap.size + 1) (by simp) ?_
               intro g3 cap3 w9 hown9 hgrow9 hat9 hlt9))
          go_ret
          have hal9 : Below wr.heap.size wr (wr.alloc (.cells #[.pointer none, (.slice a m c), .slice none 0 0, .int .i32 0, .int .u8 cbl, .bool false] 41)) := (Below.refl _ _).alloc (Nat.le_refl _) _
          have hbS : Below wS.heap.size wS (wr.alloc (.cells #[.pointer none, (.slice a m c), .slice none 0 0, .int .i32 0, .int .u8 cbl, .bool false] 41)) := HBW.out.trans (hal9.mono HBW.out.size)
          obtain ⟨hne, hl1, hl2'⟩ := HLAST.out
          have hgS : ∀ b, X b → b < wS.heap.size := fun b h => Nat.lt_of_lt_of_le (HLN.out.2.2.2.1 b h) HXS.out.2.2.1.size
          have hg9 : ∀ b, X b → w9.heap[b]? = w4.heap[b]? := fun b h => by
            rw [hgrow9.block b (Nat.lt_of_lt_of_le (hgS b h) hbS.size) (fun e => HGX.out.1 b h (by injection e)), hbS.block b (hgS b h), HQS.out.2.2.2.1 b h, HPA.out b h]
          have hX9 : ∀ b, X b → b < w9.heap.size := fun b h => Nat.lt_of_lt_of_le (Nat.lt_of_lt_of_le (hgS b h) hbS.size) hgrow9.size
          have hqr := own_keep HQS.out.1 hbS
          have hqr9 := hqr.kept hgrow9 (own_ne hqr HO2.out (by decide))
          refine ⟨_, rfl, ⟨hne, (R2.take k) ++ [⟨(.slice a m c), .slice none 0 0, ⟨cbl, 0, Nl ++ N⟩⟩], ?_, ?_, fun q hq => ?_, fun r hr => ?_⟩, ?_⟩
          · rw [List.length_append, List.flatMap_append, List.length_take]
            have hr2 := HRL.out
            rw [hr2, Nat.min_eq_left (by omega)]
            simpa [Cr.cells] using hown9
          · rw [List.map_append, hl2', hl1]
            first
              | rfl
              | (simp only [HCB.out, if_neg (show ¬ ((0 : Int) = 1) by omega)]; rfl)
              | (rw [HCB.out]; rfl)
          · have := hown9.lt q hq
            omega
          · rcases List.mem_append.1 hr with h | h
            · exact ((HRM.out.1 r (List.mem_of_mem_take h)).ag hg9).more hX9
            · obtain rfl : r = ⟨(.slice a m c), .slice none 0 0, ⟨cbl, 0, Nl ++ N⟩⟩ := by simpa using h
              refine ⟨⟨Q, by have h := hqr9; rw [HQS.out.2.2.2.2.1] at h ⊢; exact h, HQS.out.2.1, fun g hg => (hqr9.lt g hg).2, fun x hx => ⟨hX9 _ (HQS.out.2.2.1 x hx).1, ?_⟩⟩, none, 0, rfl, fun j hj => absurd hj (Nat.not_lt_zero _)⟩
              have hxx := (HQS.out.2.2.1 x hx).1
              exact rg_ag ((hgrow9.block _ (Nat.lt_of_lt_of_le (hgS _ hxx) hbS.size) (fun e => HGX.out.1 _ hxx (by injection e))).trans (hbS.block _ (hgS _ hxx))) (HQS.out.2.2.1 x hx).2
          · exact grown_row (grown_then HXS.out.2.2.1 hbS) hgrow9 HGX.out.2
    · have hs1 : (0 : Int) < sn := by omega
      have HSN := Lib.hid hs0
      clear hs0
      have g61 := HX8.out.1.1 1 _ rfl
      simp only [Nat.zero_add] at g61
      go_upto_region 27 with fail
      go_wp2_with (first
        | (at_builtin
           refine wpl_app2 rfl (.tmp 137) (.tmp 139) _ rfl w.heap.size 56 i1 _ 3 24 Tryf.underlying34 HJ.out.1 HJ.out.2.1 HJ.out.2.2.1 HJ.out.2.2.2 rfl (by omega) (.slice p1 sn c1) sn (Pl.flatMap spc) ?hs HV1.out.1 (.slice a m c) 0 m (Ps.flatMap spc) ?hx (own_zero (own_ag HS7.out.2.1 (fun g hg => HV1.out.2.1 g (by obtain ⟨P9, h9, _, h8, _⟩ := HW.out.2.2.1; exact h8 g hg)))) (spc_one _) (by unfold maxLen; omega) (by omega) HX8.out.2.2.1.size ?_; (case hs => exact rfl); (case hx => exact rfl)
           intro v2 w9 hown2 hgrow2 hat2
           obtain ⟨p2, c2, hv2⟩ := own_slice hown2
           subst hv2
           have hne61 : some b6 ≠ (Value.slice p1 sn c1).ownBlock := fun e => by have := HV1.out.2.2 _ e.symm; have := HX7.out.lt; omega
           have hne62 : some b14 ≠ (Value.slice p1 sn c1).ownBlock := fun e => by have := HV1.out.2.2 _ e.symm; have := HX7.out.lt; omega
           have hX9 := HX8.out.grown hgrow2 hne61 hne62 (fun x hx => by have := HV1.out.2.2 _ hx; have := HX7.out.2.2.1.size; omega)
           have z61 := (hX9.1.2 1 (by omega)).2
           have g61 := hX9.1.1 1 _ rfl
           simp only [Nat.zero_add] at g61 z61))
      have hb2 : (Value.slice p2 (sn + m) c2).ownBlock ≠ some b6 := fun e => by
        rcases hat2 with h | h
        · exact hne61 (by rw [← h, e])
        · rw [h] at e
          injection e with e
          have := HX8.out.lt
          omega
      have hX2 : ∀ x, (Value.slice p1 sn c1).ownBlock = some x → w.heap.size ≤ x := fun x hx => by have := HV1.out.2.2 _ hx; have := HX7.out.2.2.1.size; omega
      have hxa9 : ∀ b, X b → w9.heap[b]? = w.heap[b]? := fun b h => by
        have hb := HLN.out.2.2.2.1 b h
        rw [hgrow2.block b (Nat.lt_of_lt_of_le hb HX8.out.2.2.1.size) (fun e => by have := hX2 b e.symm; omega), HV1.out.2.1 b h]
        exact HS7.out.2.2.2.2.2 b h
      have hO9 : ownC w9 0 (.slice (some ⟨g2, 0, none⟩) k cap) k ((R2.take k).flatMap Cr.cells) := HO8.out.kept hgrow2 (own_ne HO8.out HV1.out.1 (by decide))
      have HXq := Lib.hid (hX9.subs6 (u := .slice p2 (sn + m) c2))
      have HOq := Lib.hid (show ownC (w9.setCell ⟨b6, 1, none⟩ (.slice p2 (sn + m) c2)) 0 (.slice (some ⟨g2, 0, none⟩) k cap) k ((R2.take k).flatMap Cr.cells) from own_fars (b := b6) (by simp [Value.ownBlock]; exact HNE.out.1) [.slice p2 (sn + m) c2] 1 hO9)
      have hxS : ∀ b, X b → (w9.setCell ⟨b6, 1, none⟩ (.slice p2 (sn + m) c2)).heap[b]? = w.heap[b]? := fun b h => (heap_setCell_other w9 _ b _ (by have := HLN.out.2.2.2.1 b h; have := HX8.out.2.2.2; show b ≠ b6; omega)).trans (hxa9 b h)
      have hqo : (w9.setCell ⟨b6, 1, none⟩ (.slice p2 (sn + m) c2)).ownsRow 0 56 3 (.slice p2 (sn + m) c2) (sn + m) ((Pl ++ Ps).flatMap spc) := by
        rw [List.flatMap_append]
        exact own_fars hb2 [.slice p2 (sn + m) c2] 1 (own_zero hown2)
      have hqp : ∀ x ∈ Pl ++ Ps, X x.1 ∧ (w9.setCell ⟨b6, 1, none⟩ (.slice p2 (sn + m) c2)).rangeAt x.1 0 (psc x.2) := fun x hx => by
        rcases List.mem_append.1 hx with h | h
        · have h2 := HPL.out.2.2.2.1 x h
          exact ⟨h2.1, rg_ag ((hxS _ h2.1).trans (HPA.out _ h2.1).symm) h2.2⟩
        · have h2 : X x.1 := by obtain ⟨P9, h9, h91, h92, h93⟩ := HW.out.2.2.1; exact HS7x.out x h
          exact ⟨h2, rg_ag ((hxS _ h2).trans (HS7.out.2.2.2.2.2 _ h2).symm) (HS7.out.2.2.2.1 x h)⟩
      have hln : sn + m = (Pl ++ Ps).length := by rw [List.length_append, ← HPL.out.2.2.2.2, ← HS7.out.2.2.2.2.1]
      have HQ := Lib.hid (And.intro hqo (And.intro (show (Pl ++ Ps).map (·.2) = Nl ++ N by rw [List.map_append, HPL.out.2.1, HS7.out.2.2.1]) (And.intro hqp (And.intro hxS (And.intro hln hb2)))))
      clear hqo hqp hxS hln hb2 hX2 hxa9 hO9 hX9 hown2 hgrow2 hat2 hne61 hne62 z61 g61 HX8 HO8
      generalize w9.setCell _ _ = wq at *
      obtain ⟨sm, hsm⟩ : ∃ s, s = sn + m := ⟨_, rfl⟩
      rw [← hsm] at HQ HXq
      try rw [← hsm]
      have c62 := HXq.out.1.1 2 _ rfl
      have c61 := HXq.out.1.1 1 _ rfl
      have z62 := (HXq.out.1.2 2 (by omega)).2
      simp only [Nat.zero_add] at c62 c61 z62
      rw [rounds_succ]
      go_wp2_with fail
      clear c62 c61 z62
      have HXS := Lib.hid (HXq.out.nest6 (u := .slice none 0 0))
      have hOS : ownC (wq.setCell ⟨b6, 2, none⟩ (.slice none 0 0)) 0 (.slice (some ⟨g2, 0, none⟩) k cap) k ((R2.take k).flatMap Cr.cells) := own_fars (b := b6) (by simp [Value.ownBlock]; exact HNE.out.1) [.slice none 0 0] 2 HOq.out
      have hxS : ∀ b, X b → (wq.setCell ⟨b6, 2, none⟩ (.slice none 0 0)).heap[b]? = wq.heap[b]? := fun b h => heap_setCell_other wq _ b _ (by have := HLN.out.2.2.2.1 b h; have := HXq.out.2.2.2; show b ≠ b6; omega)
      have hq6 : ((.slice p2 sm c2) : Value).ownBlock ≠ some b6 := HQ.out.2.2.2.2.2
      have hQS : (wq.setCell ⟨b6, 2, none⟩ (.slice none 0 0)).ownsRow 0 56 3 (.slice p2 sm c2) sm ((Pl ++ Ps).flatMap spc) := own_fars hq6 [.slice none 0 0] 2 HQ.out.1
      have HQS := Lib.hid (And.intro hQS (And.intro HQ.out.2.1 (And.intro (show ∀ x ∈ (Pl ++ Ps), X x.1 ∧ (wq.setCell ⟨b6, 2, none⟩ (.slice none 0 0)).rangeAt x.1 0 (psc x.2) from fun x hx => ⟨(HQ.out.2.2.1 x hx).1, rg_ag (hxS _ (HQ.out.2.2.1 x hx).1) (HQ.out.2.2.1 x hx).2⟩) (And.intro (fun b (h : X b) => (hxS b h).trans (HQ.out.2.2.2.1 b h)) (And.intro HQ.out.2.2.2.2.1 hOS)))))
      clear hOS hxS hq6 hQS HQ HXq HOq
      generalize wq.setCell _ _ = wS at *
      go_loopw [147] (fun i wr => ∃ (z : Nat), z ≤ sm ∧ i = .int .i64 (z : Nat) ∧ Hid (Below wS.heap.size wS wr)) (fun i _ => sm - (intOf i).toNat)
      case atStart => exact ⟨0, Nat.zero_le _, rfl, Lib.hid (Below.refl _ _)⟩
      case round =>
        obtain ⟨z, hz, rfl, HBW⟩ := hrel
        by_cases hlt : z < sm
        · as_aux_lemma =>
          have hmm : sm ≤ maxLen := own_le HQS.out.1
          unfold maxLen at hmm
          have q0 : (0 : Int) ≤ z := by omega
          have q1 : (z : Int) < (sm : Nat) := by omega
          have kl : z < (Pl ++ Ps).length := by have := HQS.out.2.2.2.2.1; omega
          obtain ⟨gq, cq, hve, -, -⟩ := HQS.out.1.form (by omega)
          simp only [Value.slice.injEq] at hve
          obtain ⟨rfl, hx1, rfl⟩ := hve
          clear hx1
          have r0 := own_range (f := spc) (s := 3) (L := (Pl ++ Ps)) (by have h := own_keep HQS.out.1 HBW.out; rw [HQS.out.2.2.2.2.1] at h; exact h) (fun x => rfl) kl
          obtain ⟨p, hp⟩ : ∃ p, p = ((Pl ++ Ps)[z]).1 := ⟨_, rfl⟩
          have r1 : wr.rangeAt gq (z * 3) (sbc p) := by rw [hp]; exact r0
          have y0 := r1 0 _ rfl
          have y1 := r1 1 _ rfl
          have y2 := r1 2 _ rfl
          simp only [Nat.add_zero] at y0
          have hta := fun W => ta_no p W
          clear r0 r1 hp kl
          go_wp2_with fail
          have hal : Below wr.heap.size wr (wr.alloc (.cells #[.iface 124 (.pointer (some ⟨p, 0, none⟩)), .int .i32 0, .int .i32 0] 56)) := (Below.refl _ _).alloc (Nat.le_refl _) _
          exact ⟨⟨z + 1, by omega, by go_num, Lib.hid (HBW.out.trans (hal.mono HBW.out.size))⟩, by simp [intOf]; omega⟩
        · as_aux_lemma =>
          rw [show z = sm by omega]
          clear hlt hz
          have HXR := Lib.hid (HXS.out.keep HBW.out)
          have HOR2 := Lib.hid (own_keep HQS.out.2.2.2.2.2 HBW.out)
          have HO2 := Lib.hid (HOR2.out.alloc (.cells #[.pointer none, (.slice p2 sm c2), .slice none 0 0, .int .i32 0, .int .u8 cbl, .bool false] 41))
          go_wp2_with (first
            | (refine wpList_load_mid rfl 41 _ rfl b6 0 rfl (cmc (.slice p2 sm c2) (.slice none 0 0) cbl) dC HXR.out.1.1 hC hC2 szCmp ?_)
            | (refine wpl_bs1 rfl 31 (.tmp 202) rfl _ _ _ ?hx (bs_cmp p2 none sm c2 0 0 cbl wr) ?_; case hx => (show _ = _; rfl))
            | (at_builtin
               refine wpList_append_lies _ rfl (.tmp 201) (.tmp 203) _ rfl 0 41 i0 _ 6 72 Tryf.underlying31 HI.out.1 HI.out.2.1 HI.out.2.2.1 HI.out.2.2.2 rfl (by omega) (.slice (some ⟨g2, 0, none⟩) k cap) k ((R2.take k).flatMap Cr.cells) (by rfl) HO2.out ⟨wr.heap.size, 0, none⟩ 1 1 (cmc (.slice p2 sm c2) (.slice none 0 0) cbl) (by rfl) (by rfl) (World.news_of_block (heap_alloc_new wr _)) (cmc_one _ _ _ _ _ _ _) (by omega) (by unfold maxLen; omega) (by omega) (Nat.zero_le _) (wr.heap.size + 1) (by simp) ?_
               intro g3 cap3 w9 hown9 hgrow9 hat9 hlt9))
          go_ret
          have hal9 : Below wr.heap.size wr (wr.alloc (.cells #[.pointer none, (.slice p2 sm c2), .slice none 0 0, .int .i32 0, .int .u8 cbl, .bool false] 41)) := (Below.refl _ _).alloc (Nat.le_refl _) _
          have hbS : Below wS.heap.size wS (wr.alloc (.cells #[.pointer none, (.slice p2 sm c2), .slice none 0 0, .int .i32 0, .int .u8 cbl, .bool false] 41)) := HBW.out.trans (hal9.mono HBW.out.size)
          obtain ⟨hne, hl1, hl2'⟩ := HLAST.out
          have hgS : ∀ b, X b → b < wS.heap.size := fun b h => Nat.lt_of_lt_of_le (HLN.out.2.2.2.1 b h) HXS.out.2.2.1.size
          have hg9 : ∀ b, X b → w9.heap[b]? = w4.heap[b]? := fun b h => by
            rw [hgrow9.block b (Nat.lt_of_lt_of_le (hgS b h) hbS.size) (fun e => HGX.out.1 b h (by injection e)), hbS.block b (hgS b h), HQS.out.2.2.2.1 b h, HPA.out b h]
          have hX9 : ∀ b, X b → b < w9.heap.size := fun b h => Nat.lt_of_lt_of_le (Nat.lt_of_lt_of_le (hgS b h) hbS.size) hgrow9.size
          have hqr := own_keep HQS.out.1 hbS
          have hqr9 := hqr.kept hgrow9 (own_ne hqr HO2.out (by decide))
          refine ⟨_, rfl, ⟨hne, (R2.take k) ++ [⟨(.slice p2 sm c2), .slice none 0 0, ⟨cbl, 0, Nl ++ N⟩⟩], ?_, ?_, fun q hq => ?_, fun r hr => ?_⟩, ?_⟩
          · rw [List.length_append, List.flatMap_append, List.length_take]
            have hr2 := HRL.out
            rw [hr2, Nat.min_eq_left (by omega)]
            simpa [Cr.cells] using hown9
          · rw [List.map_append, hl2', hl1]
            first
              | rfl
              | (simp only [HCB.out, if_neg (show ¬ ((0 : Int) = 1) by omega)]; rfl)
              | (rw [HCB.out]; rfl)
          · have := hown9.lt q hq
            omega
          · rcases List.mem_append.1 hr with h | h
            · exact ((HRM.out.1 r (List.mem_of_mem_take h)).ag hg9).more hX9
            · obtain rfl : r = ⟨(.slice p2 sm c2), .slice none 0 0, ⟨cbl, 0, Nl ++ N⟩⟩ := by simpa using h
              refine ⟨⟨(Pl ++ Ps), by have h := hqr9; rw [HQS.out.2.2.2.2.1] at h ⊢; exact h, HQS.out.2.1, fun g hg => (hqr9.lt g hg).2, fun x hx => ⟨hX9 _ (HQS.out.2.2.1 x hx).1, ?_⟩⟩, none, 0, rfl, fun j hj => absurd hj (Nat.not_lt_zero _)⟩
              have hxx := (HQS.out.2.2.1 x hx).1
              exact rg_ag ((hgrow9.block _ (Nat.lt_of_lt_of_le (hgS _ hxx) hbS.size) (fun e => HGX.out.1 _ hxx (by injection e))).trans (hbS.block _ (hgS _ hxx))) (HQS.out.2.2.1 x hx).2
          · exact grown_row (grown_then HXS.out.2.2.1 hbS) hgrow9 HGX.out.2
    -- part>
  · have HX7 := Lib.hid (show BX b6 b14 (cmc (.slice a m c) (.slice (some ⟨lg, 0, none⟩) 1 lc) 0) (cmc (.slice sa sn sc) (.slice lan aml lcn) 0) (Value.slice ra 0 rc).ownBlock w ((((w6.setCell ⟨b14, 3, none⟩ (.int .i32 0)).setCell ⟨b14, 4, none⟩ (.int .u8 0)).setCell ⟨b6, 3, none⟩ (.int .i32 0)).setCell ⟨b6, 4, none⟩ (.int .u8 0)) from HX6.out.bothcomb)
    have HO7 := Lib.hid (show ownC ((((w6.setCell ⟨b14, 3, none⟩ (.int .i32 0)).setCell ⟨b14, 4, none⟩ (.int .u8 0)).setCell ⟨b6, 3, none⟩ (.int .i32 0)).setCell ⟨b6, 4, none⟩ (.int .u8 0)) 0 (.slice (some ⟨g2, 0, none⟩) k cap) k ((R2.take k).flatMap Cr.cells) from own_fars (b := b6) (by simp [Value.ownBlock]; exact HNE.out.1) [.int .i32 0, .int .u8 0] 3 (own_fars (b := b14) (by simp [Value.ownBlock]; exact HNE.out.2) [.int .i32 0, .int .u8 0] 3 HO6.out.1))
    -- <part
    go_upto_region 19 with fail
    clear e3 e4 f3 f4 ze3 ze4 zf3 zf4
    generalize World.setCell (World.setCell _ _ _) _ _ = w7 at *
    have hxa : ∀ b, X b → w7.heap[b]? = w.heap[b]? := fun b h => HX7.out.2.2.1.block b (HLN.out.2.2.2.1 b h) (HLN.out.2.2.2.2 b h)
    have hPl7 : w7.ownsRow 0 56 3 (.slice sa sn sc) sn (Pl.flatMap spc) := by
      have h := HPL.out.1
      have h2 := own_ag (w' := w7) h (fun g hg => (hxa g (HPL.out.2.2.1 g hg)).trans (HPA.out g (HPL.out.2.2.1 g hg)).symm)
      rw [← HPL.out.2.2.2.2] at h2
      exact h2
    obtain ⟨Ps, hPs1, hPs2, hPs3, hPs4⟩ := HW.out.2.2.1.ag hxa
    have hml : m = Ps.length := own_len hPs1
    rw [← hml] at hPs1
    have HS7 := Lib.hid (And.intro hPl7 (And.intro hPs1 (And.intro hPs2 (And.intro (fun x (hx : x ∈ Ps) => (hPs4 x hx).2) (And.intro hml hxa)))))
    have g0 := HX7.out.2.1.1 0 _ rfl
    have g1 := HX7.out.2.1.1 1 _ rfl
    simp only [Nat.zero_add] at g0 g1
    have HS7x := Lib.hid (fun x (hx : x ∈ Ps) => (hPs4 x hx).1)
    clear hPl7 hPs1 hPs2 hPs3 hPs4 hml hxa
    go_upto_region 26 with (first
      | (at_builtin
         refine wpl_app2 rfl (.tmp 130) (.tmp 132) _ rfl w.heap.size 56 i1 _ 3 24 Tryf.underlying34 HJ.out.1 HJ.out.2.1 HJ.out.2.2.1 HJ.out.2.2.2 rfl (by omega) (.slice none 0 0) 0 [] ?hs (World.ownsRow_nil _ _ _ _) (.slice sa sn sc) 0 sn (Pl.flatMap spc) ?hx HS7.out.1 (spc_one _) (by unfold maxLen; omega) (by omega) HX7.out.2.2.1.size ?_; (case hs => exact rfl); (case hx => exact rfl)
         intro v1 w8 hown1 hgrow1 hat1
         rw [Nat.zero_add, List.nil_append] at hown1
         obtain ⟨p1, c1, hv1⟩ := own_slice hown1
         subst hv1))
    have hX8 := HX7.out.grown hgrow1 (by simp [Value.ownBlock]) (by simp [Value.ownBlock]) (by simp [Value.ownBlock])
    have HO8 := Lib.hid (HO7.out.kept hgrow1 (.inr (by simp [Value.ownBlock])))
    have hxa8 : ∀ b, X b → w8.heap[b]? = w7.heap[b]? := fun b h => (hX8.2.2.1.block b (HLN.out.2.2.2.1 b h) (HLN.out.2.2.2.2 b h)).trans (HS7.out.2.2.2.2.2 b h).symm
    have HX8 := Lib.hid hX8
    have HV1 := Lib.hid (And.intro hown1 (And.intro hxa8 (show ∀ x, (Value.slice p1 sn c1).ownBlock = some x → w7.heap.size ≤ x from fun x hx => by
      rcases hat1 with h | h
      · rw [h] at hx; simp [Value.ownBlock] at hx
      · rw [h] at hx; injection hx with hx; omega)))
    clear hX8 hxa8 hown1 hgrow1 hat1 HO7 g0 g1
    by_cases hs0 : sn = 0
    · subst hs0
      have hPl0 : Pl = [] := List.eq_nil_of_length_eq_zero HPL.out.2.2.2.2.symm
      have hNl0 : Nl = [] := by rw [← HPL.out.2.1, hPl0]; rfl
      go_wp2_with fail
      have HXq := HX8
      have HOq := HO8
      have hxa8 : ∀ b, X b → w8.heap[b]? = w.heap[b]? := fun b h => HX8.out.2.2.1.block b (HLN.out.2.2.2.1 b h) (HLN.out.2.2.2.2 b h)
      obtain ⟨Q, hQ1, hQ2, hQ3, hQ4⟩ := HW.out.2.2.1.ag hxa8
      have hmq : m = Q.length := own_len hQ1
      rw [← hmq] at hQ1
      have hq6 : (Value.slice a m c).ownBlock ≠ some b6 := fun e => by have := HLN.out.2.2.2.1 _ (hQ3 b6 e); have := HX8.out.2.2.2; omega
      have HQ := Lib.hid (And.intro hQ1 (And.intro (show Q.map (·.2) = Nl ++ N by rw [hNl0]; exact hQ2) (And.intro hQ4 (And.intro hxa8 (And.intro hmq hq6)))))
      clear hPl0 hNl0 hxa8 hQ1 hQ2 hQ3 hQ4 hmq hq6
      have c62 := HXq.out.1.1 2 _ rfl
      have c61 := HXq.out.1.1 1 _ rfl
      have z62 := (HXq.out.1.2 2 (by omega)).2
      simp only [Nat.zero_add] at c62 c61 z62
      rw [rounds_succ]
      go_wp2_with fail
      clear c62 c61 z62
      have HXS := Lib.hid (HXq.out.nest6 (u := .slice none 0 0))
      have hOS : ownC (w8.setCell ⟨b6, 2, none⟩ (.slice none 0 0)) 0 (.slice (some ⟨g2, 0, none⟩) k cap) k ((R2.take k).flatMap Cr.cells) := own_fars (b := b6) (by simp [Value.ownBlock]; exact HNE.out.1) [.slice none 0 0] 2 HOq.out
      have hxS : ∀ b, X b → (w8.setCell ⟨b6, 2, none⟩ (.slice none 0 0)).heap[b]? = w8.heap[b]? := fun b h => heap_setCell_other w8 _ b _ (by have := HLN.out.2.2.2.1 b h; have := HXq.out.2.2.2; show b ≠ b6; omega)
      have hq6 : ((.slice a m c) : Value).ownBlock ≠ some b6 := HQ.out.2.2.2.2.2
      have hQS : (w8.setCell ⟨b6, 2, none⟩ (.slice none 0 0)).ownsRow 0 56 3 (.slice a m c) m (Q.flatMap spc) := own_fars hq6 [.slice none 0 0] 2 HQ.out.1
      have HQS := Lib.hid (And.intro hQS (And.intro HQ.out.2.1 (And.intro (show ∀ x ∈ Q, X x.1 ∧ (w8.setCell ⟨b6, 2, none⟩ (.slice none 0 0)).rangeAt x.1 0 (psc x.2) from fun x hx => ⟨(HQ.out.2.2.1 x hx).1, rg_ag (hxS _ (HQ.out.2.2.1 x hx).1) (HQ.out.2.2.1 x hx).2⟩) (And.intro (fun b (h : X b) => (hxS b h).trans (HQ.out.2.2.2.1 b h)) (And.intro HQ.out.2.2.2.2.1 hOS)))))
      clear hOS hxS hq6 hQS HQ HXq HOq
      generalize w8.setCell _ _ = wS at *
      go_loopw [147] (fun i wr => ∃ (z : Nat), z ≤ m ∧ i = .int .i64 (z : Nat) ∧ Hid (Below wS.heap.size wS wr)) (fun i _ => m - (intOf i).toNat)
      case atStart => exact ⟨0, Nat.zero_le _, rfl, Lib.hid (Below.refl _ _)⟩
      case round =>
        obtain ⟨z, hz, rfl, HBW⟩ := hrel
        by_cases hlt : z < m
        · as_aux_lemma =>
          have hmm : m ≤ maxLen := own_le HQS.out.1
          unfold maxLen at hmm
          have q0 : (0 : Int) ≤ z := by omega
          have q1 : (z : Int) < (m : Nat) := by omega
          have kl : z < Q.length := by have := HQS.out.2.2.2.2.1; omega
          obtain ⟨gq, cq, hve, -, -⟩ := HQS.out.1.form (by omega)
          simp only [Value.slice.injEq] at hve
          obtain ⟨rfl, hx1, rfl⟩ := hve
          clear hx1
          have r0 := own_range (f := spc) (s := 3) (L := Q) (by have h := own_keep HQS.out.1 HBW.out; rw [HQS.out.2.2.2.2.1] at h; exact h) (fun x => rfl) kl
          obtain ⟨p, hp⟩ : ∃ p, p = (Q[z]).1 := ⟨_, rfl⟩
          have r1 : wr.rangeAt gq (z * 3) (sbc p) := by rw [hp]; exact r0
          have y0 := r1 0 _ rfl
          have y1 := r1 1 _ rfl
          have y2 := r1 2 _ rfl
          simp only [Nat.add_zero] at y0
          have hta := fun W => ta_no p W
          clear r0 r1 hp kl
          go_wp2_with fail
          have hal : Below wr.heap.size wr (wr.alloc (.cells #[.iface 124 (.pointer (some ⟨p, 0, none⟩)), .int .i32 0, .int .i32 0] 56)) := (Below.refl _ _).alloc (Nat.le_refl _) _
          exact ⟨⟨z + 1, by omega, by go_num, Lib.hid (HBW.out.trans (hal.mono HBW.out.size))⟩, by simp [intOf]; omega⟩
        · as_aux_lemma =>
          rw [show z = m by omega]
          clear hlt hz
          have HXR := Lib.hid (HXS.out.keep HBW.out)
          have HOR2 := Lib.hid (own_keep HQS.out.2.2.2.2.2 HBW.out)
          have HO2 := Lib.hid (HOR2.out.alloc (.cells #[.pointer none, (.slice a m c), .slice none 0 0, .int .i32 0, .int .u8 0, .bool false] 41))
          go_wp2_with (first
            | (refine wpList_load_mid rfl 41 _ rfl b6 0 rfl (cmc (.slice a m c) (.slice none 0 0) 0) dC HXR.out.1.1 hC hC2 szCmp ?_)
            | (refine wpl_bs1 rfl 31 (.tmp 202) rfl _ _ _ ?hx (bs_cmp a none m c 0 0 0 wr) ?_; case hx => (show _ = _; rfl))
            | (at_builtin
               refine wpList_append_lies _ rfl (.tmp 201) (.tmp 203) _ rfl 0 41 i0 _ 6 72 Tryf.underlying31 HI.out.1 HI.out.2.1 HI.out.2.2.1 HI.out.2.2.2 rfl (by omega) (.slice (some ⟨g2, 0, none⟩) k cap) k ((R2.take k).flatMap Cr.cells) (by rfl) HO2.out ⟨wr.heap.size, 0, none⟩ 1 1 (cmc (.slice a m c) (.slice none 0 0) 0) (by rfl) (by rfl) (World.news_of_block (heap_alloc_new wr _)) (cmc_one _ _ _ _ _ _ _) (by omega) (by unfold maxLen; omega) (by omega) (Nat.zero_le _) (wr.heap.size + 1) (by simp) ?_
               intro g3 cap3 w9 hown9 hgrow9 hat9 hlt9))
          go_ret
          have hal9 : Below wr.heap.size wr (wr.alloc (.cells #[.pointer none, (.slice a m c), .slice none 0 0, .int .i32 0, .int .u8 0, .bool false] 41)) := (Below.refl _ _).alloc (Nat.le_refl _) _
          have hbS : Below wS.heap.size wS (wr.alloc (.cells #[.pointer none, (.slice a m c), .slice none 0 0, .int .i32 0, .int .u8 0, .bool false] 41)) := HBW.out.trans (hal9.mono HBW.out.size)
          obtain ⟨hne, hl1, hl2'⟩ := HLAST.out
          have hgS : ∀ b, X b → b < wS.heap.size := fun b h => Nat.lt_of_lt_of_le (HLN.out.2.2.2.1 b h) HXS.out.2.2.1.size
          have hg9 : ∀ b, X b → w9.heap[b]? = w4.heap[b]? := fun b h => by
            rw [hgrow9.block b (Nat.lt_of_lt_of_le (hgS b h) hbS.size) (fun e => HGX.out.1 b h (by injection e)), hbS.block b (hgS b h), HQS.out.2.2.2.1 b h, HPA.out b h]
          have hX9 : ∀ b, X b → b < w9.heap.size := fun b h => Nat.lt_of_lt_of_le (Nat.lt_of_lt_of_le (hgS b h) hbS.size) hgrow9.size
          have hqr := own_keep HQS.out.1 hbS
          have hqr9 := hqr.kept hgrow9 (own_ne hqr HO2.out (by decide))
          refine ⟨_, rfl, ⟨hne, (R2.take k) ++ [⟨(.slice a m c), .slice none 0 0, ⟨0, 0, Nl ++ N⟩⟩], ?_, ?_, fun q hq => ?_, fun r hr => ?_⟩, ?_⟩
          · rw [List.length_append, List.flatMap_append, List.length_take]
            have hr2 := HRL.out
            rw [hr2, Nat.min_eq_left (by omega)]
            simpa [Cr.cells] using hown9
          · rw [List.map_append, hl2', hl1]
            first
              | rfl
              | (simp only [HCB.out, if_neg (show ¬ ((0 : Int) = 1) by omega)]; rfl)
              | (rw [HCB.out]; rfl)
          · have := hown9.lt q hq
            omega
          · rcases List.mem_append.1 hr with h | h
            · exact ((HRM.out.1 r (List.mem_of_mem_take h)).ag hg9).more hX9
            · obtain rfl : r = ⟨(.slice a m c), .slice none 0 0, ⟨0, 0, Nl ++ N⟩⟩ := by simpa using h
              refine ⟨⟨Q, by have h := hqr9; rw [HQS.out.2.2.2.2.1] at h ⊢; exact h, HQS.out.2.1, fun g hg => (hqr9.lt g hg).2, fun x hx => ⟨hX9 _ (HQS.out.2.2.1 x hx).1, ?_⟩⟩, none, 0, rfl, fun j hj => absurd hj (Nat.not_lt_zero _)⟩
              have hxx := (HQS.out.2.2.1 x hx).1
              exact rg_ag ((hgrow9.block _ (Nat.lt_of_lt_of_le (hgS _ hxx) hbS.size) (fun e => HGX.out.1 _ hxx (by injection e))).trans (hbS.block _ (hgS _ hxx))) (HQS.out.2.2.1 x hx).2
          · exact grown_row (grown_then HXS.out.2.2.1 hbS) hgrow9 HGX.out.2
    · have hs1 : (0 : Int) < sn := by omega
      have HSN := Lib.hid hs0
      clear hs0
      have g61 := HX8.out.1.1 1 _ rfl
      simp only [Nat.zero_add] at g61
      go_upto_region 27 with fail
      go_wp2_with (first
        | (at_builtin
           refine wpl_app2 rfl (.tmp 137) (.tmp 139) _ rfl w.heap.size 56 i1 _ 3 24 Tryf.underlying34 HJ.out.1 HJ.out.2.1 HJ.out.2.2.1 HJ.out.2.2.2 rfl (by omega) (.slice p1 sn c1) sn (Pl.flatMap spc) ?hs HV1.out.1 (.slice a m c) 0 m (Ps.flatMap spc) ?hx (own_zero (own_ag HS7.out.2.1 (fun g hg => HV1.out.2.1 g (by obtain ⟨P9, h9, _, h8, _⟩ := HW.out.2.2.1; exact h8 g hg)))) (spc_one _) (by unfold maxLen; omega) (by omega) HX8.out.2.2.1.size ?_; (case hs => exact rfl); (case hx => exact rfl)
           intro v2 w9 hown2 hgrow2 hat2
           obtain ⟨p2, c2, hv2⟩ := own_slice hown2
           subst hv2
           have hne61 : some b6 ≠ (Value.slice p1 sn c1).ownBlock := fun e => by have := HV1.out.2.2 _ e.symm; have := HX7.out.lt; omega
           have hne62 : some b14 ≠ (Value.slice p1 sn c1).ownBlock := fun e => by have := HV1.out.2.2 _ e.symm; have := HX7.out.lt; omega
           have hX9 := HX8.out.grown hgrow2 hne61 hne62 (fun x hx => by have := HV1.out.2.2 _ hx; have := HX7.out.2.2.1.size; omega)
           have z61 := (hX9.1.2 1 (by omega)).2
           have g61 := hX9.1.1 1 _ rfl
           simp only [Nat.zero_add] at g61 z61))
      have hb2 : (Value.slice p2 (sn + m) c2).ownBlock ≠ some b6 := fun e => by
        rcases hat2 with h | h
        · exact hne61 (by rw [← h, e])
        · rw [h] at e
          injection e with e
          have := HX8.out.lt
          omega
      have hX2 : ∀ x, (Value.slice p1 sn c1).ownBlock = some x → w.heap.size ≤ x := fun x hx => by have := HV1.out.2.2 _ hx; have := HX7.out.2.2.1.size; omega
      have hxa9 : ∀ b, X b → w9.heap[b]? = w.heap[b]? := fun b h => by
        have hb := HLN.out.2.2.2.1 b h
        rw [hgrow2.block b (Nat.lt_of_lt_of_le hb HX8.out.2.2.1.size) (fun e => by have := hX2 b e.symm; omega), HV1.out.2.1 b h]
        exact HS7.out.2.2.2.2.2 b h
      have hO9 : ownC w9 0 (.slice (some ⟨g2, 0, none⟩) k cap) k ((R2.take k).flatMap Cr.cells) := HO8.out.kept hgrow2 (own_ne HO8.out HV1.out.1 (by decide))
      have HXq := Lib.hid (hX9.subs6 (u := .slice p2 (sn + m) c2))
      have HOq := Lib.hid (show ownC (w9.setCell ⟨b6, 1, none⟩ (.slice p2 (sn + m) c2)) 0 (.slice (some ⟨g2, 0, none⟩) k cap) k ((R2.take k).flatMap Cr.cells) from own_fars (b := b6) (by simp [Value.ownBlock]; exact HNE.out.1) [.slice p2 (sn + m) c2] 1 hO9)
      have hxS : ∀ b, X b → (w9.setCell ⟨b6, 1, none⟩ (.slice p2 (sn + m) c2)).heap[b]? = w.heap[b]? := fun b h => (heap_setCell_other w9 _ b _ (by have := HLN.out.2.2.2.1 b h; have := HX8.out.2.2.2; show b ≠ b6; omega)).trans (hxa9 b h)
      have hqo : (w9.setCell ⟨b6, 1, none⟩ (.slice p2 (sn + m) c2)).ownsRow 0 56 3 (.slice p2 (sn + m) c2) (sn + m) ((Pl ++ Ps).flatMap spc) := by
        rw [List.flatMap_append]
        exact own_fars hb2 [.slice p2 (sn + m) c2] 1 (own_zero hown2)
      have hqp : ∀ x ∈ Pl ++ Ps, X x.1 ∧ (w9.setCell ⟨b6, 1, none⟩ (.slice p2 (sn + m) c2)).rangeAt x.1 0 (psc x.2) := fun x hx => by
        rcases List.mem_append.1 hx with h | h
        · have h2 := HPL.out.2.2.2.1 x h
          exact ⟨h2.1, rg_ag ((hxS _ h2.1).trans (HPA.out _ h2.1).symm) h2.2⟩
        · have h2 : X x.1 := by obtain ⟨P9, h9, h91, h92, h93⟩ := HW.out.2.2.1; exact HS7x.out x h
          exact ⟨h2, rg_ag ((hxS _ h2).trans (HS7.out.2.2.2.2.2 _ h2).symm) (HS7.out.2.2.2.1 x h)⟩
      have hln : sn + m = (Pl ++ Ps).length := by rw [List.length_append, ← HPL.out.2.2.2.2, ← HS7.out.2.2.2.2.1]
      have HQ := Lib.hid (And.intro hqo (And.intro (show (Pl ++ Ps).map (·.2) = Nl ++ N by rw [List.map_append, HPL.out.2.1, HS7.out.2.2.1]) (And.intro hqp (And.intro hxS (And.intro hln hb2)))))
      clear hqo hqp hxS hln hb2 hX2 hxa9 hO9 hX9 hown2 hgrow2 hat2 hne61 hne62 z61 g61 HX8 HO8
      generalize w9.setCell _ _ = wq at *
      obtain ⟨sm, hsm⟩ : ∃ s, s = sn + m := ⟨_, rfl⟩
      rw [← hsm] at HQ HXq
      try rw [← hsm]
      have c62 := HXq.out.1.1 2 _ rfl
      have c61 := HXq.out.1.1 1 _ rfl
      have z62 := (HXq.out.1.2 2 (by omega)).2
      simp only [Nat.zero_add] at c62 c61 z62
      rw [rounds_succ]
      go_wp2_with fail
      clear c62 c61 z62
      have HXS := Lib.hid (HXq.out.nest6 (u := .slice none 0 0))
      have hOS : ownC (wq.setCell ⟨b6, 2, none⟩ (.slice none 0 0)) 0 (.slice (some ⟨g2, 0, none⟩) k cap) k ((R2.take k).flatMap Cr.cells) := own_fars (b := b6) (by simp [Value.ownBlock]; exact HNE.out.1) [.slice none 0 0] 2 HOq.out
      have hxS : ∀ b, X b → (wq.setCell ⟨b6, 2, none⟩ (.slice none 0 0)).heap[b]? = wq.heap[b]? := fun b h => heap_setCell_other wq _ b _ (by have := HLN.out.2.2.2.1 b h; have := HXq.out.2.2.2; show b ≠ b6; omega)
      have hq6 : ((.slice p2 sm c2) : Value).ownBlock ≠ some b6 := HQ.out.2.2.2.2.2
      have hQS : (wq.setCell ⟨b6, 2, none⟩ (.slice none 0 0)).ownsRow 0 56 3 (.slice p2 sm c2) sm ((Pl ++ Ps).flatMap spc) := own_fars hq6 [.slice none 0 0] 2 HQ.out.1
      have HQS := Lib.hid (And.intro hQS (And.intro HQ.out.2.1 (And.intro (show ∀ x ∈ (Pl ++ Ps), X x.1 ∧ (wq.setCell ⟨b6, 2, none⟩ (.slice none 0 0)).rangeAt x.1 0 (psc x.2) from fun x hx => ⟨(HQ.out.2.2.1 x hx).1, rg_ag (hxS _ (HQ.out.2.2.1 x hx).1) (HQ.out.2.2.1 x hx).2⟩) (And.intro (fun b (h : X b) => (hxS b h).trans (HQ.out.2.2.2.1 b h)) (And.intro HQ.out.2.2.2.2.1 hOS)))))
      clear hOS hxS hq6 hQS HQ HXq HOq
      generalize wq.setCell _ _ = wS at *
      go_loopw [147] (fun i wr => ∃ (z : Nat), z ≤ sm ∧ i = .int .i64 (z : Nat) ∧ Hid (Below wS.heap.size wS wr)) (fun i _ => sm - (intOf i).toNat)
      case atStart => exact ⟨0, Nat.zero_le _, rfl, Lib.hid (Below.refl _ _)⟩
      case round =>
        obtain ⟨z, hz, rfl, HBW⟩ := hrel
        by_cases hlt : z < sm
        · as_aux_lemma =>
          have hmm : sm ≤ maxLen := own_le HQS.out.1
          unfold maxLen at hmm
          have q0 : (0 : Int) ≤ z := by omega
          have q1 : (z : Int) < (sm : Nat) := by omega
          have kl : z < (Pl ++ Ps).length := by have := HQS.out.2.2.2.2.1; omega
          obtain ⟨gq, cq, hve, -, -⟩ := HQS.out.1.form (by omega)
          simp only [Value.slice.injEq] at hve
          obtain ⟨rfl, hx1, rfl⟩ := hve
          clear hx1
          have r0 := own_range (f := spc) (s := 3) (L := (Pl ++ Ps)) (by have h := own_keep HQS.out.1 HBW.out; rw [HQS.out.2.2.2.2.1] at h; exact h) (fun x => rfl) kl
          obtain ⟨p, hp⟩ : ∃ p, p = ((Pl ++ Ps)[z]).1 := ⟨_, rfl⟩
          have r1 : wr.rangeAt gq (z * 3) (sbc p) := by rw [hp]; exact r0
          have y0 := r1 0 _ rfl
          have y1 := r1 1 _ rfl
          have y2 := r1 2 _ rfl
          simp only [Nat.add_zero] at y0
          have hta := fun W => ta_no p W
          clear r0 r1 hp kl
          go_wp2_with fail
          have hal : Below wr.heap.size wr (wr.alloc (.cells #[.iface 124 (.pointer (some ⟨p, 0, none⟩)), .int .i32 0, .int .i32 0] 56)) := (Below.refl _ _).alloc (Nat.le_refl _) _
          exact ⟨⟨z + 1, by omega, by go_num, Lib.hid (HBW.out.trans (hal.mono HBW.out.size))⟩, by simp [intOf]; omega⟩
        · as_aux_lemma =>
          rw [show z = sm by omega]
          clear hlt hz
          have HXR := Lib.hid (HXS.out.keep HBW.out)
          have HOR2 := Lib.hid (own_keep HQS.out.2.2.2.2.2 HBW.out)
          have HO2 := Lib.hid (HOR2.out.alloc (.cells #[.pointer none, (.slice p2 sm c2), .slice none 0 0, .int .i32 0, .int .u8 0, .bool false] 41))
          go_wp2_with (first
            | (refine wpList_load_mid rfl 41 _ rfl b6 0 rfl (cmc (.slice p2 sm c2) (.slice none 0 0) 0) dC HXR.out.1.1 hC hC2 szCmp ?_)
            | (refine wpl_bs1 rfl 31 (.tmp 202) rfl _ _ _ ?hx (bs_cmp p2 none sm c2 0 0 0 wr) ?_; case hx => (show _ = _; rfl))
            | (at_builtin
               refine wpList_append_lies _ rfl (.tmp 201) (.tmp 203) _ rfl 0 41 i0 _ 6 72 Tryf.underlying31 HI.out.1 HI.out.2.1 HI.out.2.2.1 HI.out.2.2.2 rfl (by omega) (.slice (some ⟨g2, 0, none⟩) k cap) k ((R2.take k).flatMap Cr.cells) (by rfl) HO2.out ⟨wr.heap.size, 0, none⟩ 1 1 (cmc (.slice p2 sm c2) (.slice none 0 0) 0) (by rfl) (by rfl) (World.news_of_block (heap_alloc_new wr _)) (cmc_one _ _ _ _ _ _ _) (by omega) (by unfold maxLen; omega) (by omega) (Nat.zero_le _) (wr.heap.size + 1) (by simp) ?_
               intro g3 cap3 w9 hown9 hgrow9 hat9 hlt9))
          go_ret
          have hal9 : Below wr.heap.size wr (wr.alloc (.cells #[.pointer none, (.slice p2 sm c2), .slice none 0 0, .int .i32 0, .int .u8 0, .bool false] 41)) := (Below.refl _ _).alloc (Nat.le_refl _) _
          have hbS : Below wS.heap.size wS (wr.alloc (.cells #[.pointer none, (.slice p2 sm c2), .slice none 0 0, .int .i32 0, .int .u8 0, .bool false] 41)) := HBW.out.trans (hal9.mono HBW.out.size)
          obtain ⟨hne, hl1, hl2'⟩ := HLAST.out
          have hgS : ∀ b, X b → b < wS.heap.size := fun b h => Nat.lt_of_lt_of_le (HLN.out.2.2.2.1 b h) HXS.out.2.2.1.size
          have hg9 : ∀ b, X b → w9.heap[b]? = w4.heap[b]? := fun b h => by
            rw [hgrow9.block b (Nat.lt_of_lt_of_le (hgS b h) hbS.size) (fun e => HGX.out.1 b h (by injection e)), hbS.block b (hgS b h), HQS.out.2.2.2.1 b h, HPA.out b h]
          have hX9 : ∀ b, X b → b < w9.heap.size := fun b h => Nat.lt_of_lt_of_le (Nat.lt_of_lt_of_le (hgS b h) hbS.size) hgrow9.size
          have hqr := own_keep HQS.out.1 hbS
          have hqr9 := hqr.kept hgrow9 (own_ne hqr HO2.out (by decide))
          refine ⟨_, rfl, ⟨hne, (R2.take k) ++ [⟨(.slice p2 sm c2), .slice none 0 0, ⟨0, 0, Nl ++ N⟩⟩], ?_, ?_, fun q hq => ?_, fun r hr => ?_⟩, ?_⟩
          · rw [List.length_append, List.flatMap_append, List.length_take]
            have hr2 := HRL.out
            rw [hr2, Nat.min_eq_left (by omega)]
            simpa [Cr.cells] using hown9
          · rw [List.map_append, hl2', hl1]
            first
              | rfl
              | (simp only [HCB.out, if_neg (show ¬ ((0 : Int) = 1) by omega)]; rfl)
              | (rw [HCB.out]; rfl)
          · have := hown9.lt q hq
            omega
          · rcases List.mem_append.1 hr with h | h
            · exact ((HRM.out.1 r (List.mem_of_mem_take h)).ag hg9).more hX9
            · obtain rfl : r = ⟨(.slice p2 sm c2), .slice none 0 0, ⟨0, 0, Nl ++ N⟩⟩ := by simpa using h
              refine ⟨⟨(Pl ++ Ps), by have h := hqr9; rw [HQS.out.2.2.2.2.1] at h ⊢; exact h, HQS.out.2.1, fun g hg => (hqr9.lt g hg).2, fun x hx => ⟨hX9 _ (HQS.out.2.2.1 x hx).1, ?_⟩⟩, none, 0, rfl, fun j hj => absurd hj (Nat.not_lt_zero _)⟩
              have hxx := (HQS.out.2.2.1 x hx).1
              exact rg_ag ((hgrow9.block _ (Nat.lt_of_lt_of_le (hgS _ hxx) hbS.size) (fun e => HGX.out.1 _ hxx (by injection e))).trans (hbS.block _ (hgS _ hxx))) (HQS.out.2.2.1 x hx).2
          · exact grown_row (grown_then HXS.out.2.2.1 hbS) hgrow9 HGX.out.2
    -- part>
end Go.Proofs.YtaiofdgiabmelaaFmt.Sb
