/-
  substituteAmpersandsInCompoundSelector at one '&', with a combinator or results: the parent goes into ':is(..)'.
-/
import Derived.Test.YtaiofdgiabmelaaFmtUg
namespace Go.Proofs.YtaiofdgiabmelaaFmt.Sb
open Go.ChangeShapes Go.WideShapes Go.ChangeAt Go.RowKit Rg
set_option linter.unusedVariables false
set_option linter.unusedSimpArgs false
theorem infoRng : (Tryf.prog.info? 54).map (fun i => (i.zero, i.size, i.bytes)) = some (some (.agg #[.int .i32 0, .int .i32 0]), 2, 8) := by kernel_rfl
/-- the cells of an element with a list of selectors -/
def isc (q : Nat) : List Value := [.iface 115 (.pointer (some ⟨q, 0, none⟩)), .int .i32 0, .int .i32 0]
theorem isc_one (q : Nat) : ∀ u ∈ isc q, u.oneCell' = true := by
  intro u hu; simp [isc] at hu; rcases hu with rfl | rfl | rfl <;> rfl
/-- the list's own four cells -/
def ilc (v : Value) : List Value := [v, .string ⟨#[]⟩, .string ⟨#[]⟩, .int .u8 2]
/-- the list that the call made: its cells at q, its row of one at gs, the clone's row at g7 -/
def ISt (D q gs g7 l : Nat) (L : List Cm) (w : World) : Prop :=
  (w.rangeAt q 0 (ilc (.slice (some ⟨gs, 0, none⟩) 1 1)) ∧ w.there q 0 4) ∧ w.rangeAt gs 0 [.slice (some ⟨g7, 0, none⟩) l l] ∧ FCms (fun b => D ≤ b ∧ b < gs) w (.slice (some ⟨g7, 0, none⟩) l l) L ∧ D ≤ gs ∧ gs < q ∧ q < w.heap.size
theorem ISt.ag {D q gs g7 l : Nat} {L : List Cm} {w w' : World} (h : ISt D q gs g7 l L w) (ha : ∀ b, D ≤ b → b ≤ q → w'.heap[b]? = w.heap[b]?) (hz : w.heap.size ≤ w'.heap.size) : ISt D q gs g7 l L w' := by
  obtain ⟨⟨h1, h2⟩, h3, h4, h5, h6, h7⟩ := h
  exact ⟨⟨rg_ag (ha q (by omega) (by omega)) h1, th_ag (ha q (by omega) (by omega)) h2⟩, rg_ag (ha gs (by omega) (by omega)) h3, h4.ag (fun b hb => ha b hb.1 (by omega)), h5, h6, Nat.lt_of_lt_of_le h7 hz⟩
theorem ISt.keep {D q gs g7 l : Nat} {L : List Cm} {w w' : World} (h : ISt D q gs g7 l L w) (hb : Below w.heap.size w w') : ISt D q gs g7 l L w' := h.ag (fun b _ h2 => hb.block b (by have := h.2.2.2.2.2; omega)) hb.size
theorem ISt.set {D q gs g7 l : Nat} {L : List Cm} {w : World} (h : ISt D q gs g7 l L w) {g o : Nat} (vs : List Value) (hg : g < D ∨ q < g) : ISt D q gs g7 l L (w.setCells g o vs) := h.ag (fun b h1 h2 => World.heap_setCells_other w g o vs (i := b) (by have := h.2.2.2.2.2; omega) (by omega)) (Nat.le_of_eq (size_setCells g vs o w).symm)
theorem ISt.grown {D q gs g7 l : Nat} {L : List Cm} {w w' : World} {row : Option Nat} (h : ISt D q gs g7 l L w) (hg : w.grownBy w' row) (hr : ∀ x, row = some x → x < D ∨ q < x) : ISt D q gs g7 l L w' :=
  h.ag (fun b h1 h2 => hg.block b (by have := h.2.2.2.2.2; omega) (fun e => by have := hr b e.symm; omega)) hg.size
/-- the list after its own substitution -/
def IFin (D q : Nat) (L : List Cm) (w : World) : Prop :=
  ∃ go cgo vL, w.rangeAt q 0 (ilc (.slice (some ⟨go, 0, none⟩) 1 cgo)) ∧ w.cell? ⟨go, 0, none⟩ = some vL ∧ FCms (fun b => D ≤ b ∧ b < w.heap.size) w vL L ∧ D ≤ go ∧ go < w.heap.size ∧ q < w.heap.size ∧ D ≤ q
theorem IFin.grown {D q : Nat} {L : List Cm} {w w' : World} {row : Option Nat} (h : IFin D q L w) (hg : w.grownBy w' row) (hr : ∀ x, row = some x → x < D) : IFin D q L w' := by
  obtain ⟨go, cgo, vL, h1, h2, h3, h4, h5, h6, h7⟩ := h
  have ha : ∀ b, D ≤ b → b < w.heap.size → w'.heap[b]? = w.heap[b]? := fun b h1 h2 => hg.block b h2 (fun e => by have := hr b e.symm; omega)
  exact ⟨go, cgo, vL, rg_ag (ha q h7 h6) h1, by rw [World.cell?_of_block (a := ⟨go, 0, none⟩) (ha go h4 h5)]; exact h2, (h3.ag (fun b hb => ha b hb.1 hb.2)).more (fun b h => ⟨h.1, Nat.lt_of_lt_of_le h.2 hg.size⟩), h4, Nat.lt_of_lt_of_le h5 hg.size, Nat.lt_of_lt_of_le h6 hg.size, h7⟩
theorem IFin.keep {D q : Nat} {L : List Cm} {w w' : World} (h : IFin D q L w) (hb : Below w.heap.size w w') : IFin D q L w' := h.grown (grown_below hb none) (fun x hx => by cases hx)
/-- the subclass selectors that the call made: the list, then the plain ones -/
def IsSub (L : List Cm) (N : List ByteArray) (v : Value) (w : World) : Prop :=
  ∃ (P : List (Nat × ByteArray)) (D q : Nat), w.ownsRow 0 56 3 v (P.length + 1) (isc q ++ P.flatMap spc) ∧ P.map (·.2) = N ∧ (∀ x ∈ P, w.rangeAt x.1 0 (psc x.2)) ∧ IFin D q L w
/-- what the call answers -/
def IsP (L : List Cm) (N : List ByteArray) (cb : Int) (n B : Nat) (v : Value) (ys : List Value) (w : World) (e : Ending) (w' : World) : Prop :=
  ∃ g c vq, e = .returned (.slice (some ⟨g, 0, none⟩) (n + 1) c) ∧ ownC w' B (.slice (some ⟨g, 0, none⟩) (n + 1) c) (n + 1) (ys ++ cmc vq (.slice none 0 0) cb) ∧ w.grownBy w' v.ownBlock ∧ (v.ownBlock = some g ∨ w.heap.size ≤ g) ∧ IsSub L N vq w'
theorem below_of_grown {w w' : World} (h : w.grownBy w' none) : Below w.heap.size w w' := ⟨h.os, h.tape, h.output, h.size, fun i hi => h.block i hi (by simp)⟩
theorem ilc_set {w : World} {q : Nat} {v u : Value} (h : w.rangeAt q 0 (ilc v)) : (w.setCell ⟨q, 0, none⟩ u).rangeAt q 0 (ilc u) := by
  intro j x hj
  by_cases e : j = 0
  · subst e
    have : x = u := by simpa [ilc] using hj.symm
    subst this
    exact set_same (by rw [h 0 v rfl]; rfl)
  · refine set_far (by omega) (h j x ?_)
    rw [← hj]
    match j, e with
    | 0, e => exact absurd rfl e
    | 1, _ | 2, _ | 3, _ | (_ + 4), _ => rfl
/-- the inner row after k compounds; the blocks of the world w0 are as they were -/
def InR (X : Nat → Prop) (L : List Cm) (k : Nat) (v : Value) (w0 w : World) : Prop :=
  (∃ R : List Cr, R.map (·.m) = L.take k ∧ ownC w w0.heap.size v k (R.flatMap Cr.cells) ∧ (∀ r ∈ R, FCm X w0 r)) ∧ w0.grownBy w none
set_option maxRecDepth 100000 in
set_option maxHeartbeats 8000000 in
theorem subis_any (pp lg lc fb gx cx : Nat) (vp vs : Value) (N : List ByteArray) (L : List Cm) (X : Nat → Prop) (cb : Int) (ra : Option Addr) (rc n B : Nat) (ys : List Value) (st : Int) (w : World) (hc : cb ≠ 0 ∨ (cb = 0 ∧ 0 < n)) (hn : n ≤ 1048576) (hN : N.length ≤ 1048576) (hL : 2 ≤ L.length) (hL2 : L.length ≤ 1048576) (h0 : ∀ c ∈ L, c.am = 0 ∧ c.N.length ≤ 1048576)
    (hX : ∀ b, X b → b < w.heap.size) (hrow : ∀ b, X b → some b ≠ (Value.slice ra n rc).ownBlock) (hw : WB pp lg fb gx cx vp vs N L X w) (hr : ownC w B (.slice ra n rc) n ys) (hB : B ≤ w.heap.size) :
    Calls Tryf.prog 17 #[.pointer (some ⟨pp, 0, none⟩), .agg #[.pointer none, vs, .slice (some ⟨lg, 0, none⟩) 1 lc, .int .i32 0, .int .u8 cb, .bool false], .func (.func 28) #[] #[.pointer (some ⟨fb, 0, none⟩)], .slice ra n rc, .int .u8 st] w
      (IsP L N cb n B (.slice ra n rc) ys w) := by
  obtain ⟨P, ho, hP, hPX, hPp⟩ := hw.2.2.1
  obtain ⟨a, c, rfl⟩ := own_slice ho
  obtain ⟨R, hro, hR, hRX, hRm⟩ := hw.2.2.2
  obtain ⟨pa, pc, rfl⟩ := own_slice hro
  obtain ⟨m, hm⟩ : ∃ m, m = P.length := ⟨_, rfl⟩
  obtain ⟨l, hl⟩ : ∃ l, l = R.length := ⟨_, rfl⟩
  have hlL : l = L.length := by rw [hl, ← hR, List.length_map]
  rw [← hm, ← hl] at hw
  obtain ⟨pg, cg, hve, -, -⟩ := hro.form (by omega)
  simp only [Value.slice.injEq] at hve
  obtain ⟨rfl, hx1, rfl⟩ := hve
  rw [← hm]
  have hmb : m ≤ 1048576 := by rw [hm]; have h5 := hN; rw [← hP, List.length_map] at h5; exact h5
  have HW := Lib.hid hw
  have HLN := Lib.hid (And.intro hm (And.intro hl (And.intro hlL (And.intro hX hrow))))
  have HR := Lib.hid (And.intro hr hB)
  have HL := Lib.hid (And.intro hL (And.intro hL2 (And.intro hN h0)))
  have hl3 : l ≤ 1048576 := by omega
  have hl1 : ((l : Int) == 1) = false := by rw [beq_eq_false_iff_ne]; omega
  clear ho hP hPX hPp hro hR hRX hRm hm hl hlL hx1 hr hB hX hrow hN hL hL2 h0
  obtain ⟨dC, hC, hC2⟩ := tyCmp
  obtain ⟨⟨d0, d1, d2, d3⟩, -, -, -⟩ := hw
  have HD := Lib.hid (And.intro d0 (And.intro d2 d3))
  clear d0 d2 d3
  go_enter Tryf.func17, Tryf.ntmps17
  go_upto_block 0 with fail
  have HG := Lib.hid (show (w.alloc (.cells #[.pointer none, .slice a m c, .slice (some ⟨lg, 0, none⟩) 1 lc, .int .i32 0, .int .u8 cb, .bool false] 41)).rangeAt w.heap.size 0 (cmc (.slice a m c) (.slice (some ⟨lg, 0, none⟩) 1 lc) cb) ∧ (w.alloc (.cells #[.pointer none, .slice a m c, .slice (some ⟨lg, 0, none⟩) 1 lc, .int .i32 0, .int .u8 cb, .bool false] 41)).there w.heap.size 0 6 ∧ Below w.heap.size w (w.alloc (.cells #[.pointer none, .slice a m c, .slice (some ⟨lg, 0, none⟩) 1 lc, .int .i32 0, .int .u8 cb, .bool false] 41)) from
    ⟨rg_new w #[.pointer none, .slice a m c, .slice (some ⟨lg, 0, none⟩) 1 lc, .int .i32 0, .int .u8 cb, .bool false] 41, th_new w _ _ rfl, (Below.refl _ _).alloc (Nat.le_refl _) _⟩)
  have d1 := alloc_cell d1 (.cells #[.pointer none, .slice a m c, .slice (some ⟨lg, 0, none⟩) 1 lc, .int .i32 0, .int .u8 cb, .bool false] 41)
  obtain ⟨b6, hb6⟩ : ∃ b, b = w.heap.size := ⟨_, rfl⟩
  rw [← hb6]
  have HB6 := Lib.hid hb6
  rw [← hb6] at HG
  clear hb6
  generalize w.alloc _ = w1 at *
  refine wp_block ?_
  refine wp_loop_rounds 2 ?_
  rw [rounds_succ]
  go_wp2_with fail
  obtain ⟨b12, hb12⟩ : ∃ b, b = w1.heap.size := ⟨_, rfl⟩
  have hba : Below w1.heap.size w1 (w1.alloc (.cells #[.int .i32 0] 37)) := (Below.refl _ _).alloc (Nat.le_refl _) _
  have hbw : Below w.heap.size w (w1.alloc (.cells #[.int .i32 0] 37)) := by have h := HG.out.2.2; rw [HB6.out] at h; exact h.trans (hba.mono h.size)
  have h12 := rg_new w1 #[.int .i32 0] 37 0 _ rfl
  rw [Nat.zero_add, ← hb12] at h12
  have HG1 := Lib.hid (And.intro (rg_keep hba HG.out.1) (And.intro (th_keep hba HG.out.2.1) (And.intro hbw h12)))
  have hl12 : w.heap.size ≤ b12 ∧ b6 < b12 := ⟨by have h := HG.out.2.2.size; have := HB6.out; omega, by have := th_lt HG.out.2.1 (by omega); omega⟩
  rw [← hb12]
  clear hba hbw HG d1 h12 hb12
  generalize w1.alloc _ = w2 at *
  refine (fn_any fb gx cx (some ⟨pg, 0, none⟩) l pc w2 (later HG1.out.2.2.1 HD.out.2.1) (later HG1.out.2.2.1 HD.out.2.2)).mono ?_
  rintro e w3 ⟨rfl, hb⟩
  have HG3 := Lib.hid (show w3.rangeAt b6 0 (cmc (.slice a m c) (.slice (some ⟨lg, 0, none⟩) 1 lc) cb) ∧ w3.there b6 0 6 ∧ Below w.heap.size w w3 ∧ w3.cell? ⟨b12, 0, none⟩ = some (.int .i32 0) ∧ b12 < w3.heap.size from ⟨rg_keep hb HG1.out.1, th_keep hb HG1.out.2.1, HG1.out.2.2.1.trans (hb.mono HG1.out.2.2.1.size), later hb HG1.out.2.2.2, World.block_lt_of_cell? w3 _ (later hb HG1.out.2.2.2)⟩)
  clear hb HG1
  go_upto_region 6 with fail
  have h1 : Below w3.heap.size w3 (w3.alloc (.cells #[.slice (some ⟨pg, 0, none⟩) l pc] 44)) := (Below.refl _ _).alloc (Nat.le_refl _) _
  have r1 := rg_new w3 #[.slice (some ⟨pg, 0, none⟩) l pc] 44
  have h2 : Below (w3.alloc (.cells #[.slice (some ⟨pg, 0, none⟩) l pc] 44)).heap.size (w3.alloc (.cells #[.slice (some ⟨pg, 0, none⟩) l pc] 44)) ((w3.alloc (.cells #[.slice (some ⟨pg, 0, none⟩) l pc] 44)).alloc (.cells #[.pointer none, .slice none 0 0, .slice none 0 0, .int .i32 0, .int .u8 0, .bool false] 41)) := (Below.refl _ _).alloc (Nat.le_refl _) _
  have t2 := th_new (w3.alloc (.cells #[.slice (some ⟨pg, 0, none⟩) l pc] 44)) #[.pointer none, .slice none 0 0, .slice none 0 0, .int .i32 0, .int .u8 0, .bool false] 41 (n := 6) rfl
  have z2 : (w3.alloc (.cells #[.slice (some ⟨pg, 0, none⟩) l pc] 44)).heap.size = w3.heap.size + 1 := World.size_alloc _ _
  rw [z2] at t2
  have h12 := h1.trans (h2.mono h1.size)
  have HG4 := Lib.hid (And.intro (rg_keep h12 HG3.out.1) (And.intro (th_keep h12 HG3.out.2.1) (And.intro (HG3.out.2.2.1.trans (h12.mono HG3.out.2.2.1.size)) (And.intro (rg_keep h2 r1) (And.intro t2 (later h12 HG3.out.2.2.2.1))))))
  have h613 := th_lt HG3.out.2.1 (by omega)
  have h1213 := HG3.out.2.2.2.2
  clear h1 r1 h2 t2 z2 h12 HG3
  generalize World.alloc (World.alloc _ _) _ = w4 at *
  obtain ⟨b13, hb13⟩ : ∃ b, b = w3.heap.size := ⟨_, rfl⟩
  obtain ⟨b14, hb14⟩ : ∃ b, b = b13 + 1 := ⟨_, rfl⟩
  rw [← hb13] at HG4 ⊢
  rw [← hb14] at HG4 ⊢
  have HB14 := Lib.hid (show b6 < b12 ∧ b12 < b13 ∧ b13 < b14 ∧ w.heap.size ≤ b6 from ⟨by omega, by omega, by omega, by have := HB6.out; omega⟩)
  clear hb13 hb14 h613 h1213 hl12
  have c64 := HG4.out.1 4 _ rfl
  have c13 := HG4.out.2.2.2.1 0 _ rfl
  have c12 := HG4.out.2.2.2.2.2
  simp only [Nat.zero_add] at c64 c13
  have HC13 := Lib.hid (And.intro c12 c13)
  have hd0 := later HG4.out.2.2.1 HD.out.1
  rcases hc with hc0 | ⟨rfl, hn0⟩
  · have hc1 : (cb == 0) = false := by rw [beq_eq_false_iff_ne]; exact hc0
    clear hc0
    -- <part
    go_upto_region 17 with fail
    go_wp2_with fail
    refine (rep_any pp w4 hd0).mono ?_
    rintro e w5 ⟨rfl, hb5⟩
    have hD5 : Below w4.heap.size w4 w5.drew := hb5.drew
    have hX5 : ∀ b, X b → b < w5.drew.heap.size := fun b h => Nat.lt_of_lt_of_le (HLN.out.2.2.2.1 b h) (Nat.le_trans HG4.out.2.2.1.size hD5.size)
    have hb05 : Below w.heap.size w w5.drew := HG4.out.2.2.1.trans (hD5.mono HG4.out.2.2.1.size)
    have HG5 := Lib.hid (show w5.drew.rangeAt b6 0 (cmc (.slice a m c) (.slice (some ⟨lg, 0, none⟩) 1 lc) cb) ∧ w5.drew.there b6 0 6 ∧ Below w.heap.size w w5.drew ∧ w5.drew.there b14 0 6 ∧ (∀ b, X b → b < w5.drew.heap.size) ∧ FCms X w5.drew (.slice (some ⟨pg, 0, none⟩) l pc) L from ⟨rg_keep hD5 HG4.out.1, th_keep hD5 HG4.out.2.1, hb05, th_keep hD5 HG4.out.2.2.2.2.1, hX5, (HW.out.2.2.2).ag (ag_below HLN.out.2.2.2.1 hb05)⟩)
    have HS0 := Lib.hid (show w5.drew.cell? ⟨b12, 0, none⟩ = some (.int .i32 0) ∧ w5.drew.cell? ⟨b13, 0, none⟩ = some (.slice (some ⟨pg, 0, none⟩) l pc) from ⟨later hD5 HC13.out.1, later hD5 HC13.out.2⟩)
    clear hb5 hD5 hX5 hb05 HG4 hd0 c12 c13 c64 HC13 hl1
    go_upto_region 18 with fail
    refine Pl.wp_region_split (fun w' => w'.cell? ⟨b12, 0, none⟩ = some (.int .i32 0) ∧ w'.cell? ⟨b13, 0, none⟩ = some (.slice (some ⟨pg, 0, none⟩) l pc)) 11 (by kernel_rfl) (by kernel_rfl) ?_
    simp only [List.take_succ_cons, List.take_zero]
    have hHeld := HS0.out
    refine Pl.take_l (i := 0) (v := ?v1) rfl (by kernel_rfl) (by kernel_rfl) (by kernel_rfl) (fun _ _ _ h => h) rfl ?hy1 hHeld ?rest1
    case hy1 => (intro w hSw; (try dsimp only at hSw); (try obtain ⟨_, _⟩ := hSw); go_simp <;> (try with_reducible rfl))
    try simp only [Act.put, List.setIfInBounds_toArray, List.set_cons_zero, List.set_cons_succ]
    refine Pl.take_l (i := 1) (v := ?v2) rfl (by kernel_rfl) (by kernel_rfl) (by kernel_rfl) (fun _ _ _ h => h) rfl ?hy2 hHeld ?rest2
    case hy2 => (intro w hSw; (try dsimp only at hSw); (try obtain ⟨_, _⟩ := hSw); go_simp <;> (try with_reducible rfl))
    try simp only [Act.put, List.setIfInBounds_toArray, List.set_cons_zero, List.set_cons_succ]
    refine Pl.take_l (i := 2) (v := ?v3) rfl (by kernel_rfl) (by kernel_rfl) (by kernel_rfl) (fun _ _ _ h => h) rfl ?hy3 hHeld ?rest3
    case hy3 => (intro w hSw; (try dsimp only at hSw); (try obtain ⟨_, _⟩ := hSw); go_simp <;> (try with_reducible rfl))
    try simp only [Act.put, List.setIfInBounds_toArray, List.set_cons_zero, List.set_cons_succ]
    generalize World.drew _ = wd at *
    refine Pl.alone_l (i := 3) (by kernel_rfl) rfl (fun K hK => ?_)
    go_simp; refine (cxl_any (.slice (some ⟨pg, 0, none⟩) l pc) L X wd HL.out.2.1 HL.out.2.2.2 HG5.out.2.2.2.2.1 HG5.out.2.2.2.2.2).mono ?_; rintro e w6 ⟨g7, rfl, hf, hb⟩; rw [← HLN.out.2.2.1] at hf ⊢; have HF := Lib.hid (And.intro hf hb); clear hf hb; dsimp only
    refine hK.out _ _ (⟨later HF.out.2 HS0.out.1, later HF.out.2 HS0.out.2⟩) (fun hHeld2 => ?_)
    clear hK K hHeld
    have hHeld := hHeld2
    clear hHeld2
    try simp only [Act.put, List.setIfInBounds_toArray, List.set_cons_zero, List.set_cons_succ]
    obtain ⟨gs, hgs⟩ : ∃ g, g = w6.heap.size := ⟨_, rfl⟩
    have h67 : Below w6.heap.size w6 (w6.alloc (.cells #[.slice (some ⟨g7, 0, none⟩) l l] 44)) := (Below.refl _ _).alloc (Nat.le_refl _) _
    have r67 := rg_new w6 #[.slice (some ⟨g7, 0, none⟩) l l] 44
    have hd7 := HF.out.2.trans (h67.mono HF.out.2.size)
    have hbs := bs_cpl (some ⟨g7, 0, none⟩) l l w6
    rw [← hgs] at r67 hbs
    have HF7 := Lib.hid (And.intro (HF.out.1.ag (ag_below (fun b h => h.2) h67)) (And.intro hd7 (And.intro r67 (show wd.heap.size ≤ gs ∧ gs < (w6.alloc (.cells #[.slice (some ⟨g7, 0, none⟩) l l] 44)).heap.size ∧ w6.heap.size = gs by rw [World.size_alloc, hgs]; exact ⟨HF.out.2.size, Nat.lt_succ_self _, rfl⟩))))
    rw [hgs.symm] at HF7
    clear h67 r67 hd7 hgs HF
    refine Pl.alone_l (i := 4) (by kernel_rfl) rfl (fun K hK => ?_)
    refine step_bs1 rfl 46 (.tmp 92) rfl _ _ _ ?hx hbs ?_; case hx => (show _ = _; rfl)
    refine hK.out _ _ (⟨later HF7.out.2.1 HS0.out.1, later HF7.out.2.1 HS0.out.2⟩) (fun hHeld2 => ?_)
    clear hK K hHeld
    have hHeld := hHeld2
    clear hHeld2
    try simp only [Act.put, List.setIfInBounds_toArray, List.set_cons_zero, List.set_cons_succ]
    clear hbs
    generalize World.alloc _ _ = w7 at *
    refine Pl.take_l (i := 5) (v := ?v4) rfl (by kernel_rfl) (by kernel_rfl) (by kernel_rfl) (fun _ _ _ h => h) rfl ?hy4 hHeld ?rest4
    case hy4 => (intro w hSw; (try dsimp only at hSw); (try obtain ⟨_, _⟩ := hSw); go_simp <;> (try with_reducible rfl))
    try simp only [Act.put, List.setIfInBounds_toArray, List.set_cons_zero, List.set_cons_succ]
    obtain ⟨q, hq⟩ : ∃ g, g = w7.heap.size := ⟨_, rfl⟩
    have h78 : Below w7.heap.size w7 (w7.alloc (.cells (ilc (.slice (some ⟨gs, 0, none⟩) 1 1)).toArray 121)) := (Below.refl _ _).alloc (Nat.le_refl _) _
    have r78 := rg_new w7 (ilc (.slice (some ⟨gs, 0, none⟩) 1 1)).toArray 121
    have hd8 := HF7.out.2.1.trans (h78.mono HF7.out.2.1.size)
    have s8 : (w7.alloc (.cells (ilc (.slice (some ⟨gs, 0, none⟩) 1 1)).toArray 121)).heap.size = q + 1 := by rw [World.size_alloc, hq]
    rw [← hq] at r78
    have HF8 := Lib.hid (And.intro (HF7.out.1.ag (ag_below (fun b h => Nat.lt_trans h.2 HF7.out.2.2.2.2.1) h78)) (And.intro hd8 (And.intro (rg_keep h78 HF7.out.2.2.1) (And.intro r78 (And.intro (show wd.heap.size ≤ gs ∧ gs < q by rw [hq]; exact ⟨HF7.out.2.2.2.1, HF7.out.2.2.2.2.1⟩) s8)))))
    have hbx : (Value.agg #[.slice (some ⟨gs, 0, none⟩) 1 1, .string ⟨#[]⟩, .string ⟨#[]⟩, .int .u8 2]).cells = (ilc (.slice (some ⟨gs, 0, none⟩) 1 1)).toArray := by rfl
    clear h78 r78 hd8 s8
    refine Pl.alone_l (i := 6) (by kernel_rfl) rfl (fun K hK => ?_)
    go_simp
    refine hK.out _ _ (⟨later HF8.out.2.1 HS0.out.1, later HF8.out.2.1 HS0.out.2⟩) (fun hHeld2 => ?_)
    clear hK K hHeld
    have hHeld := hHeld2
    clear hHeld2
    try simp only [Act.put, List.setIfInBounds_toArray, List.set_cons_zero, List.set_cons_succ]
    have hw8 : ∃ W, W = w7.alloc (.cells (ilc (.slice (some ⟨gs, 0, none⟩) 1 1)).toArray 121) := ⟨_, rfl⟩
    obtain ⟨w8, hw8⟩ := hw8
    rw [← hw8] at HF8
    rw [← hq]
    change wpAnyH _ _ _ _ _ _ _ _ (w7.alloc (.cells (ilc (.slice (some ⟨gs, 0, none⟩) 1 1)).toArray 121))
    rw [← hw8]
    replace hHeld := (⟨later HF8.out.2.1 HS0.out.1, later HF8.out.2.1 HS0.out.2⟩ : w8.cell? ⟨b12, 0, none⟩ = some (.int .i32 0) ∧ w8.cell? ⟨b13, 0, none⟩ = some (.slice (some ⟨pg, 0, none⟩) l pc))
    have HT8 := Lib.hid (show w8.there q 0 4 by rw [hw8, hq]; exact th_new w7 _ _ rfl)
    clear hw8 hq hbx
    refine Pl.take_l (i := 7) (v := ?v5) rfl (by kernel_rfl) (by kernel_rfl) (by kernel_rfl) (fun _ _ _ h => h) rfl ?hy5 hHeld ?rest5
    case hy5 => (intro w hSw; (try dsimp only at hSw); (try obtain ⟨_, _⟩ := hSw); go_simp <;> (try with_reducible rfl))
    try simp only [Act.put, List.setIfInBounds_toArray, List.set_cons_zero, List.set_cons_succ]
    refine Pl.take_l (i := 8) (v := ?v6) rfl (by kernel_rfl) (by kernel_rfl) (by kernel_rfl) (fun _ _ _ h => h) rfl ?hy6 hHeld ?rest6
    case hy6 => (intro w hSw; (try dsimp only at hSw); (try obtain ⟨_, _⟩ := hSw); go_simp <;> (try with_reducible rfl))
    try simp only [Act.put, List.setIfInBounds_toArray, List.set_cons_zero, List.set_cons_succ]
    have hT9 : Below w8.heap.size w8 (w8.alloc (.cells (isc q).toArray 56)) := (Below.refl _ _).alloc (Nat.le_refl _) _
    have hd9 := HF8.out.2.1.trans (hT9.mono HF8.out.2.1.size)
    have hb9 : Below w.heap.size w (w8.alloc (.cells (isc q).toArray 56)) := HG5.out.2.2.1.trans (hd9.mono HG5.out.2.2.1.size)
    have h14 := th_lt HG5.out.2.2.2.1 (by omega)
    have hI8 : ISt wd.heap.size q gs g7 l L w8 := ⟨⟨HF8.out.2.2.2.1, HT8.out⟩, HF8.out.2.2.1, HF8.out.1, HF8.out.2.2.2.2.1.1, HF8.out.2.2.2.2.1.2, by rw [HF8.out.2.2.2.2.2]; exact Nat.lt_succ_self _⟩
    have o9 := World.ownsRow_lit (base := w.heap.size) (e := 56) (size := 3) w8 (isc q).toArray 1 (by have := HG5.out.2.2.1.size; have := HF8.out.2.1.size; omega) (by unfold maxLen; omega) rfl
    have hX9 : BX b6 b14 (cmc (.slice a m c) (.slice (some ⟨lg, 0, none⟩) 1 lc) cb) [] none w (w8.alloc (.cells (isc q).toArray 56)) :=
      ⟨⟨rg_keep hd9 HG5.out.1, th_keep hd9 HG5.out.2.1⟩, ⟨fun j v hj => by simp at hj, th_keep hd9 HG5.out.2.2.2.1⟩, grown_below hb9 _, HB14.out.2.2.2, by have := HB14.out; omega⟩
    have HX10 := Lib.hid (hX9.set14 (cmc (.slice (some ⟨w8.heap.size, 0, none⟩) 1 1) (.slice none 0 0) 0) rfl)
    have HI10 := Lib.hid ((hI8.keep hT9).set (g := b14) (o := 0) (cmc (.slice (some ⟨w8.heap.size, 0, none⟩) 1 1) (.slice none 0 0) 0) (.inl h14))
    have HO10 := Lib.hid (own_fars (b := b14) (by simp [Value.ownBlock]; have := HF8.out.2.1.size; omega) (cmc (.slice (some ⟨w8.heap.size, 0, none⟩) 1 1) (.slice none 0 0) 0) 0 o9)
    have HTH := Lib.hid hX9.2.1.2
    have HONE := Lib.hid (cmc_all (some ⟨w8.heap.size, 0, none⟩) none 1 1 0 0 0)
    have hq8 : q < w8.heap.size ∧ wd.heap.size ≤ q := ⟨hI8.2.2.2.2.2, by have := hI8.2.2.2; omega⟩
    have HQ8 := Lib.hid (And.intro hq8 (And.intro h14 HG5.out.2.2.1.size))
    have HS9 := Lib.hid (show (w8.alloc (.cells (isc q).toArray 56)).cell? ⟨b12, 0, none⟩ = some (.int .i32 0) ∧ (w8.alloc (.cells (isc q).toArray 56)).cell? ⟨b13, 0, none⟩ = some (.slice (some ⟨pg, 0, none⟩) l pc) from ⟨later hd9 HS0.out.1, later hd9 HS0.out.2⟩)
    clear hT9 hd9 hb9 h14 hI8 o9 hX9 HF7 HF8 HT8 HG5 HS0 hq8
    obtain ⟨gq, hgq⟩ : ∃ g, g = w8.heap.size := ⟨_, rfl⟩
    have hbs := bs_sub 115 q w8
    rw [← hgq] at HX10 HI10 HO10 HONE HQ8 hbs
    clear hgq
    refine Pl.alone_l (i := 9) (by kernel_rfl) rfl (fun K hK => ?_)
    refine step_bs1 rfl 34 (.tmp 97) rfl _ _ _ ?hx hbs ?_; case hx => (show _ = _; rfl)
    refine hK.out _ _ HS9.out (fun hHeld2 => ?_)
    clear hK K hHeld
    have hHeld := hHeld2
    clear hHeld2
    try simp only [Act.put, List.setIfInBounds_toArray, List.set_cons_zero, List.set_cons_succ]
    clear hbs
    change wpAnyH _ _ _ _ _ _ _ _ (w8.alloc (.cells (isc q).toArray 56))
    replace hHeld := HS9.out
    clear HS9
    generalize w8.alloc _ = w9 at *
    refine Pl.take_l (i := 10) (v := ?v7) rfl (by kernel_rfl) (by kernel_rfl) (by kernel_rfl) (fun _ _ _ h => h) rfl ?hy7 hHeld ?rest7
    case hy7 => (intro w hSw; (try dsimp only at hSw); (try obtain ⟨_, _⟩ := hSw); go_simp <;> (try with_reducible rfl))
    try simp only [Act.put, List.setIfInBounds_toArray, List.set_cons_zero, List.set_cons_succ]
    refine wpAnyH_done (by kernel_rfl) ?_ _
    refine Pl.behind_normal (by decide) ?_
    simp only [List.drop_succ_cons, List.drop_zero]
    clear hHeld
    refine wpList_store_mid rfl 41 _ _ rfl b14 0 #[.pointer none, .slice (some ⟨gq, 0, none⟩) 1 1, .slice none 0 0, .int .i32 0, .int .u8 0, .bool false] ?ha ?hv HTH.out szCmp HONE.out ?_
    case ha => exact rfl
    case hv => (go_simp; done)
    change wpList _ _ _ _ _ (World.setCells _ b14 0 (cmc (.slice (some ⟨gq, 0, none⟩) 1 1) (.slice none 0 0) 0))
    generalize World.setCells _ _ _ _ = w10 at *
    have g0 := HX10.out.2.1.1 0 _ rfl
    have g1 := HX10.out.2.1.1 1 _ rfl
    simp only [Nat.zero_add] at g0 g1
    obtain ⟨i1, ji, jz0, jz1, jz2⟩ := info_parts infoSub
    have HJ := Lib.hid (And.intro ji (And.intro jz0 (And.intro jz1 jz2)))
    clear ji jz0 jz1 jz2 HTH HONE
    go_upto_region 19 with fail
    go_upto_region 26 with (first
      | (at_builtin
         refine wpl_app2 rfl (.tmp 130) (.tmp 132) _ rfl w.heap.size 56 i1 _ 3 24 Tryf.underlying34 HJ.out.1 HJ.out.2.1 HJ.out.2.2.1 HJ.out.2.2.2 rfl (by omega) (.slice none 0 0) 0 [] ?hs (World.ownsRow_nil _ _ _ _) (.slice (some ⟨gq, 0, none⟩) 1 1) w.heap.size 1 (isc q) ?hx HO10.out (isc_one _) (by unfold maxLen; omega) (by omega) HX10.out.2.2.1.size ?_; (case hs => exact rfl); (case hx => exact rfl)
         intro v1 w11 hown1 hgrow1 hat1
         rw [Nat.zero_add, List.nil_append] at hown1
         obtain ⟨p1, c1, hv1⟩ := own_slice hown1
         subst hv1))
    have hX11 := HX10.out.grown hgrow1 (by simp [Value.ownBlock]) (by simp [Value.ownBlock]) (by simp [Value.ownBlock])
    have HI11 := Lib.hid (HI10.out.grown hgrow1 (fun x hx => by simp [Value.ownBlock] at hx))
    have hp1 : ∀ x, (Value.slice p1 1 c1).ownBlock = some x → w10.heap.size ≤ x := fun x hx => by
      rcases hat1 with h | h
      · rw [h] at hx; simp [Value.ownBlock] at hx
      · rw [h] at hx; injection hx with hx; omega
    have HX11 := Lib.hid hX11
    have HV1 := Lib.hid (And.intro hown1 hp1)
    clear hX11 hown1 hgrow1 hat1 HX10 g0 g1
    have g61 := HX11.out.1.1 1 _ rfl
    simp only [Nat.zero_add] at g61
    go_upto_region 27 with fail
    have hs11 : (Value.slice p1 1 c1).ownBlock ≠ none := by
      obtain ⟨g, cc, hve, -, -⟩ := HV1.out.1.form (by omega)
      rw [hve]; simp [Value.ownBlock]
    have HNZ := Lib.hid hs11
    clear hs11
    obtain ⟨Ps, hPs1, hPs2, hPs3, hPs4⟩ := HW.out.2.2.1.ag (w' := w11) (fun b h => HX11.out.2.2.1.block b (HLN.out.2.2.2.1 b h) (by simp))
    have hml : m = Ps.length := own_len hPs1
    rw [← hml] at hPs1
    have HS11 := Lib.hid (And.intro hPs1 (And.intro hPs2 (And.intro hPs3 (And.intro hPs4 hml))))
    clear hPs1 hPs2 hPs3 hPs4 hml
    go_wp2_with (first
      | (at_builtin
         refine wpl_app2 rfl (.tmp 137) (.tmp 139) _ rfl w.heap.size 56 i1 _ 3 24 Tryf.underlying34 HJ.out.1 HJ.out.2.1 HJ.out.2.2.1 HJ.out.2.2.2 rfl (by omega) (.slice p1 1 c1) 1 (isc q) ?hs HV1.out.1 (.slice a m c) 0 m (Ps.flatMap spc) ?hx (own_zero HS11.out.1) (spc_one _) (by unfold maxLen; omega) (by omega) HX11.out.2.2.1.size ?_; (case hs => exact rfl); (case hx => exact rfl)
         intro v2 w12 hown2 hgrow2 hat2
         obtain ⟨p2, c2, hv2⟩ := own_slice hown2
         subst hv2
         have hne61 : some b6 ≠ (Value.slice p1 1 c1).ownBlock := fun e => by have := HV1.out.2 _ e.symm; have := HX11.out.lt; have := HI10.out.2.2.2.2.2; have := HQ8.out; have := HB14.out; omega
         have hne62 : some b14 ≠ (Value.slice p1 1 c1).ownBlock := fun e => by have := HV1.out.2 _ e.symm; have := HX11.out.lt; have := HI10.out.2.2.2.2.2; have := HQ8.out; omega
         have hX12 := HX11.out.grown hgrow2 hne61 hne62 (fun x hx => by have := HV1.out.2 _ hx; have := HI10.out.2.2.2.2.2; have := HQ8.out; omega)
         have z61 := (hX12.1.2 1 (by omega)).2
         have g61 := hX12.1.1 1 _ rfl
         simp only [Nat.zero_add] at g61 z61))
    have hI12 := HI11.out.grown hgrow2 (fun x hx => .inr (by have := HV1.out.2 _ hx; have := HI10.out.2.2.2.2.2; omega))
    have hb2 : (Value.slice p2 (1 + m) c2).ownBlock ≠ some b6 := fun e => by
      rcases hat2 with h | h
      · exact hne61 (by rw [← h, e])
      · rw [h] at e
        injection e with e
        have := HX11.out.lt
        omega
    have HBQ := Lib.hid (show (Value.slice p2 (1 + m) c2).ownBlock ≠ some q from fun e => by
      rcases hat2 with h | h
      · have := HV1.out.2 q (by rw [← h, e])
        have := HI10.out.2.2.2.2.2
        omega
      · rw [h] at e
        injection e with e
        have := HI11.out.2.2.2.2.2
        omega)
    have HQ14 := Lib.hid HQ8.out.2.1
    have hb6D : b6 < wd.heap.size := by have := HQ8.out; have := HB14.out; omega
    have HXq := Lib.hid (hX12.subs6 (u := .slice p2 (1 + m) c2))
    have HIq := Lib.hid (show ISt wd.heap.size q gs g7 l L (w12.setCell ⟨b6, 1, none⟩ (.slice p2 (1 + m) c2)) from hI12.set (g := b6) (o := 1) [.slice p2 (1 + m) c2] (.inl hb6D))
    have HOq := Lib.hid (And.intro (show (w12.setCell ⟨b6, 1, none⟩ (.slice p2 (1 + m) c2)).ownsRow w.heap.size 56 3 (.slice p2 (1 + m) c2) (1 + m) (isc q ++ Ps.flatMap spc) from own_fars hb2 [.slice p2 (1 + m) c2] 1 hown2) hb2)
    have HPS := Lib.hid (show Ps.map (·.2) = N ∧ ∀ x ∈ Ps, X x.1 ∧ w.rangeAt x.1 0 (psc x.2) from ⟨HS11.out.2.1, fun x hx => ⟨(HS11.out.2.2.2.1 x hx).1, rg_ag (HX11.out.2.2.1.block _ (HLN.out.2.2.2.1 _ (HS11.out.2.2.2.1 x hx).1) (by simp)).symm (HS11.out.2.2.2.1 x hx).2⟩⟩)
    have HS11 := Lib.hid HS11.out.2.2.2.2
    clear hX12 hown2 hgrow2 hat2 hne61 hne62 z61 g61 hI12 hb2 hb6D HX11 HI11 HV1 HI10 HO10 HNZ
    generalize w12.setCell _ _ = wq at *
    have HD6 := Lib.hid (show b6 < wd.heap.size ∧ b6 < q ∧ w.heap.size ≤ wd.heap.size from ⟨by have := HQ8.out; have := HB14.out; omega, by have := HQ8.out; have := HB14.out; omega, HQ8.out.2.2⟩)
    generalize wd.heap.size = D at *
    have c62 := HXq.out.1.1 2 _ rfl
    have c61 := HXq.out.1.1 1 _ rfl
    have z62 := (HXq.out.1.2 2 (by omega)).2
    simp only [Nat.zero_add] at c62 c61 z62
    obtain ⟨M, hM⟩ : ∃ M, M = 1 + m := ⟨_, rfl⟩
    rw [← hM] at HXq HOq HBQ c61
    try rw [← hM]
    have HMM := Lib.hid hM
    clear hM
    rw [rounds_succ]
    go_wp2_with fail
    clear c62 c61 z62
    have HXS := Lib.hid (HXq.out.nest6 (u := .slice none 0 0))
    have HIS := Lib.hid (show ISt D q gs g7 l L (wq.setCell ⟨b6, 2, none⟩ (.slice none 0 0)) from HIq.out.set (g := b6) (o := 2) [.slice none 0 0] (.inl HD6.out.1))
    have HOS := Lib.hid (show (wq.setCell ⟨b6, 2, none⟩ (.slice none 0 0)).ownsRow w.heap.size 56 3 (.slice p2 M c2) M (isc q ++ Ps.flatMap spc) from own_fars HOq.out.2 [.slice none 0 0] 2 HOq.out.1)
    clear HXq HIq HOq
    generalize wq.setCell _ _ = wS at *
    have HST := Lib.hid (show BX b6 b14 (cmc (.slice p2 M c2) (.slice none 0 0) cb) (cmc (.slice (some ⟨gq, 0, none⟩) 1 1) (.slice none 0 0) 0) none w wS ∧ wS.ownsRow w.heap.size 56 3 (.slice p2 M c2) M (isc q ++ Ps.flatMap spc) from ⟨HXS.out, HOS.out⟩)
    clear HXS HOS
    go_loopw [147] (fun i wr => ∃ (z : Nat), z ≤ M ∧ i = .int .i64 (z : Nat) ∧ Hid (BX b6 b14 (cmc (.slice p2 M c2) (.slice none 0 0) cb) (cmc (.slice (some ⟨gq, 0, none⟩) 1 1) (.slice none 0 0) 0) none w wr ∧ wr.ownsRow w.heap.size 56 3 (.slice p2 M c2) M (isc q ++ Ps.flatMap spc)) ∧ Hid ((z = 0 ∧ ISt D q gs g7 l L wr) ∨ (0 < z ∧ IFin D q L wr))) (fun i _ => M - (intOf i).toNat)
    case atStart => exact ⟨0, Nat.zero_le _, rfl, HST, Lib.hid (.inl ⟨rfl, HIS.out⟩)⟩
    case round =>
      obtain ⟨z, hz, rfl, HBW, HZ⟩ := hrel
      clear HST HIS
      by_cases hlt : z < M
      · have hmm : M ≤ 1048577 := by have := HMM.out; omega
        have q0 : (0 : Int) ≤ z := by omega
        have q1 : (z : Int) < (M : Nat) := by omega
        obtain ⟨gv, cv, hve, -, -⟩ := HBW.out.2.form (by omega)
        simp only [Value.slice.injEq] at hve
        obtain ⟨rfl, hx1, rfl⟩ := hve
        clear hx1
        rcases HZ.out with ⟨rfl, hIS⟩ | ⟨hz1, hIF⟩
        · as_aux_lemma =>
          have HI := Lib.hid hIS
          have r1 : wr.rangeAt gv 0 (isc q) := fun j u hu => by
            have hj : j < 3 := (List.getElem?_eq_some_iff.1 hu).1
            rw [Nat.zero_add, HBW.out.2.cellAt j (by omega), List.getElem?_append_left (List.getElem?_eq_some_iff.1 hu).1]
            exact hu
          have y0 := r1 0 _ rfl
          have y1 := r1 1 _ rfl
          have y2 := r1 2 _ rfl
          simp only [Nat.add_zero] at y0
          have hta := fun W => ta_yes q W
          have hq0 := HI.out.1.1 0 _ rfl
          have hqlt := HI.out.2.2.2.2.2
          clear r1 hIS HZ
          obtain ⟨k0, hk0, kz0, kz1, kz2⟩ := info_parts infoCpl
          obtain ⟨i0, hi0, hz0, hz1', hz2⟩ := info_parts infoCmp
          have hmk1 : ∀ W : World, (Instr.makeSlice 46 (.int .i64 0) (.int .i64 1)).run Tryf.prog W = .ok (.slice (some ⟨W.heap.size, 0, none⟩) 0 1) (W.alloc (.cells (madeCells #[.slice none 0 0] (1 * 1)) 44)) := fun W => by
            have h := run_make_rowN (P := Tryf.prog) 46 44 k0 _ (by kernel_rfl) hk0 kz0 .i64 .i64 0 1 (by omega) (by rw [kz2]; omega) (by omega) W
            rw [kz1] at h
            exact h
          have hmk2 : ∀ W : World, (Instr.makeSlice 31 (.int .i64 0) (.int .i64 (l : Int))).run Tryf.prog W = .ok (.slice (some ⟨W.heap.size, 0, none⟩) 0 l) (W.alloc (.cells (madeCells #[.pointer none, .slice none 0 0, .slice none 0 0, .int .i32 0, .int .u8 0, .bool false] (l * 6)) 41)) := fun W => by
            have h := run_make_rowN (P := Tryf.prog) 31 41 i0 _ (by kernel_rfl) hi0 hz0 .i64 .i64 0 l (by omega) (by rw [hz2]; omega) (by omega) W
            rw [hz1'] at h
            exact h
          have HK := Lib.hid (And.intro hk0 (And.intro kz0 (And.intro kz1 kz2)))
          have HC0 := Lib.hid (And.intro hi0 (And.intro hz0 (And.intro hz1' hz2)))
          clear hk0 kz0 kz1 kz2 hi0 hz0 hz1' hz2
          obtain ⟨R0, ho7, hR0, hR0X, hR0m⟩ := HI.out.2.2.1
          have hlR : l = R0.length := own_len ho7
          have HF7 := Lib.hid (show wr.ownsRow 0 41 6 (.slice (some ⟨g7, 0, none⟩) R0.length R0.length) R0.length (R0.flatMap Cr.cells) ∧ R0.map (·.m) = L ∧ (∀ r ∈ R0, FCm (fun b => D ≤ b ∧ b < gs) wr r) ∧ l = R0.length from ⟨by rw [← hlR] at ho7 ⊢; exact ho7, hR0, hR0m, hlR⟩)
          clear ho7 hR0 hR0X hR0m hlR
          go_upto_block 4 with fail
          have ha1 : Below wr.heap.size wr (wr.alloc (.cells #[.iface 115 (.pointer (some ⟨q, 0, none⟩)), .int .i32 0, .int .i32 0] 56)) := (Below.refl _ _).alloc (Nat.le_refl _) _
          have hs1 : (wr.alloc (.cells #[.iface 115 (.pointer (some ⟨q, 0, none⟩)), .int .i32 0, .int .i32 0] 56)).heap.size = wr.heap.size + 1 := World.size_alloc _ _
          generalize wr.alloc (.cells #[.iface 115 (.pointer (some ⟨q, 0, none⟩)), .int .i32 0, .int .i32 0] 56) = x1 at *
          have ho1 := World.ownsRow_made (base := wr.heap.size) (e := 44) (size := 1) x1 (madeCells #[.slice none 0 0] 1) 1 (by omega) (by unfold maxLen; omega) (by simp [madeCells])
          have ha2 : Below wr.heap.size wr (x1.alloc (.cells (madeCells #[.slice none 0 0] 1) 44)) := ha1.alloc ha1.size _
          generalize x1.alloc _ = w20 at *
          obtain ⟨g21, hg21⟩ : ∃ g, g = wr.heap.size + 1 := ⟨_, rfl⟩
          rw [hs1, ← hg21] at ho1
          rw [← hg21]
          have HG21 := Lib.hid (show wr.heap.size ≤ g21 by omega)
          have H20 := Lib.hid (And.intro ha2 ho1)
          have hgs1 := later ha2 (HI.out.2.1 0 _ rfl)
          rw [Nat.zero_add] at hgs1
          clear hg21 hs1 ha1 ha2 ho1 hmk1 y0 y1 y2 hta hq0
          refine wp_block ?_
          refine wp_loop_rounds 2 ?_
          rw [rounds_succ]
          go_upto_block 6 with fail
          have ha3 : Below w20.heap.size w20 (w20.alloc (.cells #[.slice (some ⟨g7, 0, none⟩) l l] 44)) := (Below.refl _ _).alloc (Nat.le_refl _) _
          have hs3 : (w20.alloc (.cells #[.slice (some ⟨g7, 0, none⟩) l l] 44)).heap.size = w20.heap.size + 1 := World.size_alloc _ _
          generalize w20.alloc (.cells #[.slice (some ⟨g7, 0, none⟩) l l] 44) = x3 at *
          have ho3 := World.ownsRow_made (base := w20.heap.size) (e := 41) (size := 6) x3 (madeCells #[.pointer none, .slice none 0 0, .slice none 0 0, .int .i32 0, .int .u8 0, .bool false] (l * 6)) l (by omega) (by unfold maxLen; omega) (by simp [madeCells])
          have ha4 : Below w20.heap.size w20 (x3.alloc (.cells (madeCells #[.pointer none, .slice none 0 0, .slice none 0 0, .int .i32 0, .int .u8 0, .bool false] (l * 6)) 41)) := ha3.alloc ha3.size _
          generalize x3.alloc _ = w22 at *
          obtain ⟨g24, hg24⟩ : ∃ g, g = w20.heap.size + 1 := ⟨_, rfl⟩
          rw [hs3, ← hg24] at ho3
          rw [← hg24]
          have H22 := Lib.hid (show InR (fun b => D ≤ b ∧ b < gs) L 0 (.slice (some ⟨g24, 0, none⟩) 0 l) w20 w22 from ⟨⟨[], by simp, ho3, fun r hr => by cases hr⟩, grown_below ha4 _⟩)
          clear hg24 hs3 ha3 ha4 ho3 hmk2 hgs1
          obtain ⟨wo, hwo⟩ : ∃ x, x = wr := ⟨_, rfl⟩
          subst hwo
          refine wp_block ?_
          go_loopw [24, 180] (fun v i wr => ∃ (k : Nat) (va : Option Addr) (vc : Nat), k ≤ l ∧ i = .int .i64 (k : Nat) ∧ v = .slice va k vc ∧ Hid (InR (fun b => D ≤ b ∧ b < gs) L k (.slice va k vc) w20 wr)) (fun _ i _ => l - (intOf i).toNat)
          case atStart => exact ⟨0, some ⟨g24, 0, none⟩, l, Nat.zero_le _, rfl, rfl, H22⟩
          case round =>
            obtain ⟨k, va, vc, hk, rfl, rfl, HV⟩ := hrel
            clear H22
            by_cases hlt2 : k < l
            · as_aux_lemma =>
              have q2 : (0 : Int) ≤ k := by omega
              have q3 : (k : Int) < (l : Nat) := by omega
              have kR : k < R0.length := by have := HF7.out.2.2.2; omega
              have kL : k < L.length := by have := HLN.out.2.2.1; omega
              have hbx : Below wo.heap.size wo wr := H20.out.1.trans ((below_of_grown HV.out.2).mono H20.out.1.size)
              have r0 := own_range (f := Cr.cells) (s := 6) (L := R0) (own_keep HF7.out.1 hbx) (fun x => rfl) kR
              have hfm := HF7.out.2.2.1 _ (List.getElem_mem kR)
              have hm : (R0[k]).m = L[k] := by
                have h := List.getElem_of_eq HF7.out.2.1 (i := k) (by simpa using kR)
                simpa using h
              obtain ⟨r, hr⟩ : ∃ r, r = R0[k] := ⟨_, rfl⟩
              rw [← hr] at r0 hfm hm
              clear hr kR
              have h00 := HL.out.2.2.2 _ (List.getElem_mem kL)
              rw [← hm] at h00
              have hXr : ∀ b, (D ≤ b ∧ b < gs) → b < wo.heap.size := fun b hb => by have := HI.out.2.2.2; omega
              obtain ⟨hsub, an, cn, hvn, hloc⟩ := hfm.ag (ag_below hXr hbx)
              obtain ⟨vs, vn, mm⟩ := r
              dsimp only at hsub hvn h00 hm r0
              rw [h00.1] at hvn
              subst hvn
              obtain ⟨P', ho', hP', _, _⟩ := id hsub
              obtain ⟨sa, sc, rfl⟩ := own_slice ho'
              obtain ⟨pn, hpn⟩ : ∃ n, n = P'.length := ⟨_, rfl⟩
              rw [← hpn] at r0 hsub
              obtain ⟨cb2, am, N2⟩ := mm
              dsimp only at r0 h00 hsub
              have HSB := Lib.hid (And.intro hsub (And.intro h00.2 h00.1))
              have HM := Lib.hid hm
              obtain ⟨⟨Ri, hRi, hRo, hRf⟩, hRg⟩ := HV.out
              have HRI := Lib.hid (And.intro hRi (And.intro hRo (And.intro hRf hRg)))
              clear hRi hRo hRf hRg
              have HRG := Lib.hid (show wr.rangeAt g7 (k * 6) (cmc (.slice sa pn sc) (.slice an 0 cn) cb2) from r0)
              have HXL := Lib.hid (show ∀ b, (D ≤ b ∧ b < gs) → b < wr.heap.size from fun b h => Nat.lt_of_lt_of_le (hXr b h) hbx.size)
              clear hsub hloc ho' hP' hpn r0 h00 hbx hm hXr hfm
              go_upto_region 43 with (first
                | (refine wpList_load_mid rfl 41 _ rfl g7 (k * 6) rfl (cmc (.slice sa pn sc) (.slice an 0 cn) cb2) dC HRG.out hC hC2 szCmp ?_)
                | (refine wpList_store_mid rfl 41 _ _ rfl wr.heap.size 0 (cmc (.slice sa pn sc) (.slice an 0 cn) cb2).toArray rfl rfl (th_new wr _ _ rfl) szCmp (cmc_all _ _ _ _ _ _ _) ?_))
              have hbS : Below wr.heap.size wr ((wr.alloc (.cells #[.pointer none, .slice none 0 0, .slice none 0 0, .int .i32 0, .int .u8 0, .bool false] 41)).setCells wr.heap.size 0 (cmc (.slice sa pn sc) (.slice an 0 cn) cb2)) := below_setCells (Nat.le_refl _) _ _ ((Below.refl _ _).alloc (Nat.le_refl _) _)
              have hrS : ((wr.alloc (.cells #[.pointer none, .slice none 0 0, .slice none 0 0, .int .i32 0, .int .u8 0, .bool false] 41)).setCells wr.heap.size 0 (cmc (.slice sa pn sc) (.slice an 0 cn) cb2)).rangeAt wr.heap.size 0 (cmc (.slice sa pn sc) (.slice an 0 cn) cb2) := World.rangeAt_setCells_same _ _ _ _ (th_new wr _ _ rfl)
              generalize World.setCells _ _ _ _ = w5 at *
              have HB5 := Lib.hid (And.intro hbS hrS)
              clear hbS hrS
              obtain ⟨bx, hbx⟩ : ∃ b, b = wr.heap.size := ⟨_, rfl⟩
              rw [← hbx]
              have HRS := Lib.hid (show w5.rangeAt bx 0 (cmc (.slice sa pn sc) (.slice an 0 cn) cb2) by rw [hbx]; exact HB5.out.2)
              clear hbx HRG
              go_wp2_with (first
                | (refine wpList_load_mid rfl 41 _ rfl bx 0 rfl (cmc (.slice sa pn sc) (.slice an 0 cn) cb2) dC HRS.out hC hC2 szCmp ?_))
              refine (sub0_any pp (.func (.func 28) #[] #[.pointer (some ⟨fb, 0, none⟩)]) (.slice sa pn sc) an cn cb2 N2 (fun b => D ≤ b ∧ b < gs) (.slice va k vc) k w20.heap.size (Ri.flatMap Cr.cells) 1 w5 (by omega) (Nat.le_trans HRI.out.2.2.2.size HB5.out.1.size) (fun b h => Nat.lt_of_lt_of_le (HXL.out b h) HB5.out.1.size) (HSB.out.1.ag (ag_below HXL.out HB5.out.1)) (own_keep HRI.out.2.1 HB5.out.1)).mono ?_
              rintro e w7 ⟨g8, c8, rfl, hown, hgrow, hat⟩
              have hRg7 : w20.grownBy w7 none := grown_new (grown_then HRI.out.2.2.2 HB5.out.1) hgrow (fun x hx => (HRI.out.2.1.lt x hx).1)
              have HN := Lib.hid (show InR (fun b => D ≤ b ∧ b < gs) L (k + 1) (.slice (some ⟨g8, 0, none⟩) (k + 1) c8) w20 w7 from by
                refine ⟨⟨Ri ++ [⟨.slice sa pn sc, .slice none 0 0, ⟨cb2, 0, N2⟩⟩], ?_, ?_, fun r hr => ?_⟩, hRg7⟩
                · rw [List.map_append, HRI.out.1, List.take_succ_eq_append_getElem kL, ← HM.out, HSB.out.2.2]
                  rfl
                · rw [List.flatMap_append]
                  simpa [Cr.cells] using hown
                · rcases List.mem_append.1 hr with h | h
                  · exact HRI.out.2.2.1 r h
                  · obtain rfl : r = ⟨.slice sa pn sc, .slice none 0 0, ⟨cb2, 0, N2⟩⟩ := by simpa using h
                    refine ⟨HSB.out.1.ag (fun b hb => (HRI.out.2.2.2.block b ?_ (by simp)).symm), none, 0, rfl, fun j hj => absurd hj (Nat.not_lt_zero _)⟩
                    have := HI.out.2.2.2
                    have := H20.out.1.size
                    omega)
              clear hown hgrow hat hRg7 HRI HB5 HRS HSB HM HV
              go_wp2_with fail
              refine ⟨⟨_, _, _, _, _, _, _, _, _, _, _, _, ?rel, rfl⟩, ?meas⟩
              case rel => exact ⟨k + 1, some ⟨g8, 0, none⟩, c8, by omega, by go_num, rfl, HN⟩
              case meas =>
                show l - (intOf (.int .i64 ((k : Int) + 1))).toNat < l - (intOf (.int .i64 (k : Int))).toNat
                simp only [intOf]
                omega
            · as_aux_lemma =>
              have hkl : l = k := by omega
              subst hkl
              obtain ⟨⟨Ri, hRi, hRo, hRf⟩, hRg⟩ := HV.out
              have hRL : Ri.map (·.m) = L := by rw [hRi, HLN.out.2.2.1, List.take_length]
              have hRl : Ri.length = l := by rw [HLN.out.2.2.1, ← hRL, List.length_map]
              have HRI := Lib.hid (And.intro hRL (And.intro hRo (And.intro hRf (And.intro hRg hRl))))
              have hbx : Below wo.heap.size wo wr := H20.out.1.trans ((below_of_grown hRg).mono H20.out.1.size)
              have hal : Below wr.heap.size wr (wr.alloc (.cells #[.slice va l vc] 44)) := (Below.refl _ _).alloc (Nat.le_refl _) _
              have HBX := Lib.hid (And.intro hbx (hbx.trans (hal.mono hbx.size)))
              have HO21 := Lib.hid (own_zero (own_keep (own_keep H20.out.2 (below_of_grown hRg)) hal))
              clear hRi hRo hRf hRg hRL hRl hbx hal hlt2 hk
              go_wp2_with (first
                | (refine wpl_bs1 rfl 46 (.tmp 192) rfl _ _ _ ?hx (bs_cpl va l vc wr) ?_; case hx => (show _ = _; rfl))
                | (at_builtin
                   refine wpList_append_lies _ rfl (.tmp 190) (.tmp 193) _ rfl 0 44 k0 _ 1 24 Tryf.underlying46 HK.out.1 HK.out.2.1 HK.out.2.2.1 HK.out.2.2.2 rfl (by omega) (.slice (some ⟨g21, 0, none⟩) 0 1) 0 [] ?hs HO21.out ⟨wr.heap.size, 0, none⟩ 1 1 [.slice va l vc] ?hx (by rfl) (World.news_of_block (heap_alloc_new wr _)) (fun u hu => by simp at hu; subst hu; rfl) (by omega) (by unfold maxLen; omega) (by omega) (Nat.zero_le _) (wr.heap.size + 1) (by simp) ?_; (case hs => exact rfl); (case hx => exact rfl)
                   intro g9 cap9 w9 hown9 hgrow9 hat9 hlt9
                   have hqb : w9.heap[q]? = wo.heap[q]? := (hgrow9.block q (Nat.lt_of_lt_of_le hqlt HBX.out.2.size) (fun e => by simp [Value.ownBlock] at e; have := HG21.out; omega)).trans (HBX.out.2.block q hqlt)
                   have t9 := th_ag hqb HI.out.1.2
                   have zq := (t9 0 (by omega)).2
                   obtain ⟨uq, huq⟩ := Option.isSome_iff_exists.1 (t9 0 (by omega)).1
                   rw [Nat.zero_add] at zq huq))
              rw [rounds_succ]
              go_wp2_with fail
              have hwo9 : ∀ b, b < wo.heap.size → w9.heap[b]? = wo.heap[b]? := fun b hb => (hgrow9.block b (Nat.lt_of_lt_of_le hb HBX.out.2.size) (fun e => by simp [Value.ownBlock] at e; have := HG21.out; omega)).trans (HBX.out.2.block b hb)
              have hsz9 : wo.heap.size ≤ w9.heap.size := Nat.le_trans HBX.out.2.size hgrow9.size
              have hgq9 : g9 < w9.heap.size := (hown9.lt g9 rfl).2
              have hg9 : wo.heap.size ≤ g9 := by
                rcases hat9 with h | h
                · simp [Value.ownBlock] at h
                  have := HG21.out
                  omega
                · have := HBX.out.2.size
                  have := HBX.out.1.size
                  omega
              have hall : Below wr.heap.size wr (wr.alloc (.cells #[.slice va l vc] 44)) := (Below.refl _ _).alloc (Nat.le_refl _) _
              have hri1 := own_keep HRI.out.2.1 hall
              have hri9 := hri1.kept hgrow9 (own_ne hri1 HO21.out (by decide))
              have hriq : (Value.slice va l vc).ownBlock ≠ some q := fun e => by have := (hri9.lt q e).1; have := H20.out.1.size; omega
              have hsetq : ∀ b, b ≠ q → (w9.setCell ⟨q, 0, none⟩ (.slice (some ⟨g9, 0, none⟩) 1 cap9)).heap[b]? = w9.heap[b]? := fun b hb => heap_setCell_other w9 _ b _ hb
              have hszq : (w9.setCell ⟨q, 0, none⟩ (.slice (some ⟨g9, 0, none⟩) 1 cap9)).heap.size = w9.heap.size := by simp [World.setCell]
              have hgw : w.grownBy w9 none := grown_new (grown_then HBW.out.1.2.2.1 HBX.out.2) hgrow9 (fun x hx => by simp [Value.ownBlock] at hx; have := HG21.out; have := HBW.out.1.2.2.1.size; omega)
              have hwD : w.heap.size ≤ D := HD6.out.2.2
              have hDq : D ≤ gs ∧ gs < q := HI.out.2.2.2.1 |> fun h => ⟨h, HI.out.2.2.2.2.1⟩
              have hbx6 := HBW.out.1.lt
              have hw14 : b14 < D := HQ14.out
              have hb6D : b6 < D := HD6.out.1
              have hBXf : BX b6 b14 (cmc (.slice (some ⟨gv, 0, none⟩) M c2) (.slice none 0 0) cb) (cmc (.slice (some ⟨gq, 0, none⟩) 1 1) (.slice none 0 0) 0) none w (w9.setCell ⟨q, 0, none⟩ (.slice (some ⟨g9, 0, none⟩) 1 cap9)) :=
                HBW.out.1.ag ((hsetq b6 (by omega)).trans (hwo9 b6 hbx6.1)) ((hsetq b14 (by omega)).trans (hwo9 b14 hbx6.2)) (grown_set1 hgw _ (by show w.heap.size ≤ q; omega))
              have hgvq : gv ≠ q := fun e => HBQ.out (by simp [Value.ownBlock, e])
              have hgvl := (HBW.out.2.lt gv rfl).2
              have hOwf : (w9.setCell ⟨q, 0, none⟩ (.slice (some ⟨g9, 0, none⟩) 1 cap9)).ownsRow w.heap.size 56 3 (.slice (some ⟨gv, 0, none⟩) M c2) M (isc q ++ Ps.flatMap spc) :=
                own_ag HBW.out.2 (fun g hg => by
                  obtain rfl : gv = g := by simpa [Value.ownBlock] using hg
                  exact (hsetq gv hgvq).trans (hwo9 gv hgvl))
              have hag20 : ∀ b, (D ≤ b ∧ b < gs) → (w9.setCell ⟨q, 0, none⟩ (.slice (some ⟨g9, 0, none⟩) 1 cap9)).heap[b]? = w20.heap[b]? := fun b hb =>
                (hsetq b (by omega)).trans ((hwo9 b (by omega)).trans (H20.out.1.block b (by omega)).symm)
              have hIFf : IFin D q L (w9.setCell ⟨q, 0, none⟩ (.slice (some ⟨g9, 0, none⟩) 1 cap9)) := by
                refine ⟨g9, cap9, .slice va l vc, ilc_set (rg_ag (hwo9 q hqlt) HI.out.1.1), ?_, ⟨Ri, ?_, HRI.out.1, fun g hg => ?_, fun r hr => ((HRI.out.2.2.1 r hr).ag hag20).more (fun b hb => ⟨hb.1, by rw [hszq]; omega⟩)⟩, by omega, by rw [hszq]; exact hgq9, by rw [hszq]; omega, by omega⟩
                · have h9 := hown9.cells (g := g9) rfl 0 (.slice va l vc) (by simp)
                  have hne : g9 ≠ q := by omega
                  rw [World.cell?_of_block (a := ⟨g9, 0, none⟩) (hsetq g9 hne)]
                  exact h9
                · have h := own_zero (own_fars hriq [.slice (some ⟨g9, 0, none⟩) 1 cap9] 0 hri9)
                  rw [HRI.out.2.2.2.2]
                  exact h
                · have := hri9.lt g hg
                  have := H20.out.1.size
                  rw [hszq]
                  omega
              exact ⟨⟨1, by omega, by go_num, Lib.hid ⟨hBXf, hOwf⟩, Lib.hid (.inr ⟨by omega, hIFf⟩)⟩, by simp [intOf]; omega⟩
        · as_aux_lemma =>
          have HI := Lib.hid hIF
          have kl : z - 1 < Ps.length := by have := HMM.out; have := HS11.out; omega
          have r0 : wr.rangeAt gv (z * 3) (sbc (Ps[z - 1]).1) := fun j u hu => by
            have hj : j < 3 := (List.getElem?_eq_some_iff.1 hu).1
            rw [HBW.out.2.cellAt (z * 3 + j) (by omega), List.getElem?_append_right (by show 3 ≤ z * 3 + j; omega), show z * 3 + j - (isc q).length = (z - 1) * 3 + j by show z * 3 + j - 3 = _; omega, flat_at spc (s := 3) (fun _ => rfl) Ps (z - 1) j kl hj]
            exact hu
          obtain ⟨p, hp⟩ : ∃ p, p = (Ps[z - 1]).1 := ⟨_, rfl⟩
          rw [← hp] at r0
          have y0 := r0 0 _ rfl
          have y1 := r0 1 _ rfl
          have y2 := r0 2 _ rfl
          simp only [Nat.add_zero] at y0
          have hta := fun W => ta_no p W
          have HZ1 := Lib.hid hz1
          clear r0 hp kl HZ hIF hz1
          go_wp2_with fail
          have hal : Below wr.heap.size wr (wr.alloc (.cells #[.iface 124 (.pointer (some ⟨p, 0, none⟩)), .int .i32 0, .int .i32 0] 56)) := (Below.refl _ _).alloc (Nat.le_refl _) _
          exact ⟨⟨z + 1, by omega, by go_num, Lib.hid ⟨HBW.out.1.keep hal, own_keep HBW.out.2 hal⟩, Lib.hid (.inr ⟨by omega, HI.out.keep hal⟩)⟩, by simp [intOf]; omega⟩
      · as_aux_lemma =>
        have hzM : M = z := by omega
        subst hzM
        have hIF : IFin D q L wr := by
          rcases HZ.out with ⟨h, _⟩ | ⟨_, h⟩
          · have := HMM.out; omega
          · exact h
        have hal : Below wr.heap.size wr (wr.alloc (.cells #[.pointer none, .slice p2 M c2, .slice none 0 0, .int .i32 0, .int .u8 cb, .bool false] 41)) := (Below.refl _ _).alloc (Nat.le_refl _) _
        have HI := Lib.hid (hIF.keep hal)
        obtain ⟨i0, hi, hz0, hz1, hz2⟩ := info_parts infoCmp
        have HC0 := Lib.hid (And.intro hi (And.intro hz0 (And.intro hz1 hz2)))
        have hbw := below_of_grown HBW.out.1.2.2.1
        have HRW := Lib.hid (And.intro (own_keep HR.out.1 hbw) (And.intro hbw (Nat.le_trans HR.out.2 hbw.size)))
        have HO2 := Lib.hid (HRW.out.1.alloc (.cells #[.pointer none, .slice p2 M c2, .slice none 0 0, .int .i32 0, .int .u8 cb, .bool false] 41))
        have HS2 := Lib.hid (own_zero (own_keep HBW.out.2 hal))
        clear hIF HZ hlt hz hal hi hz0 hz1 hz2 hbw
        go_wp2_with (first
          | (refine wpList_load_mid rfl 41 _ rfl b6 0 rfl (cmc (.slice p2 M c2) (.slice none 0 0) cb) dC HBW.out.1.1.1 hC hC2 szCmp ?_)
          | (refine wpl_bs1 rfl 31 (.tmp 202) rfl _ _ _ ?hx (bs_cmp p2 none M c2 0 0 cb wr) ?_; case hx => (show _ = _; rfl))
          | (at_builtin
             refine wpList_append_lies _ rfl (.tmp 201) (.tmp 203) _ rfl B 41 i0 _ 6 72 Tryf.underlying31 HC0.out.1 HC0.out.2.1 HC0.out.2.2.1 HC0.out.2.2.2 rfl (by omega) (.slice ra n rc) n ys ?hs HO2.out ⟨wr.heap.size, 0, none⟩ 1 1 (cmc (.slice p2 M c2) (.slice none 0 0) cb) ?hx (by rfl) (World.news_of_block (heap_alloc_new wr _)) (cmc_one _ _ _ _ _ _ _) (by omega) (by unfold maxLen; omega) (by omega) (by have := HRW.out.2.2; simp; omega) (wr.heap.size + 1) (by simp) ?_; (case hs => exact rfl); (case hx => exact rfl)
             intro g3 cap3 w9 hown9 hgrow9 hat9 hlt9))
        go_ret
        have hgr : w.grownBy w9 (Value.slice ra n rc).ownBlock := ((grown_below HRW.out.2.1 _).trans (grown_alloc wr _ _)).trans hgrow9
        refine ⟨g3, cap3, .slice p2 M c2, rfl, hown9, hgr, ?_, Ps, D, q, ?_, HPS.out.1, fun x hx => ?_, HI.out.grown hgrow9 (fun x hx => ?_)⟩
        · rcases hat9 with h | h
          · exact .inl h
          · right
            have := HRW.out.2.1.size
            omega
        · have h := HS2.out.kept hgrow9 (own_ne HS2.out HO2.out (by decide))
          have hM2 : M = Ps.length + 1 := by have := HMM.out; have := HS11.out; omega
          rw [← hM2]
          exact h
        · have h1 := (HPS.out.2 x hx).1
          exact rg_ag (hgr.block _ (HLN.out.2.2.2.1 _ h1) (HLN.out.2.2.2.2 _ h1)) (HPS.out.2 x hx).2
        · have h1 := (HR.out.1.lt x hx).2
          have := HD6.out.2.2
          omega
    -- part>
  · have hn1 : ((n : Int) == 0) = false := by rw [beq_eq_false_iff_ne]; omega
    clear hn0
    -- <part
    go_upto_region 17 with fail
    go_wp2_with fail
    refine (rep_any pp w4 hd0).mono ?_
    rintro e w5 ⟨rfl, hb5⟩
    have hD5 : Below w4.heap.size w4 w5.drew := hb5.drew
    have hX5 : ∀ b, X b → b < w5.drew.heap.size := fun b h => Nat.lt_of_lt_of_le (HLN.out.2.2.2.1 b h) (Nat.le_trans HG4.out.2.2.1.size hD5.size)
    have hb05 : Below w.heap.size w w5.drew := HG4.out.2.2.1.trans (hD5.mono HG4.out.2.2.1.size)
    have HG5 := Lib.hid (show w5.drew.rangeAt b6 0 (cmc (.slice a m c) (.slice (some ⟨lg, 0, none⟩) 1 lc) 0) ∧ w5.drew.there b6 0 6 ∧ Below w.heap.size w w5.drew ∧ w5.drew.there b14 0 6 ∧ (∀ b, X b → b < w5.drew.heap.size) ∧ FCms X w5.drew (.slice (some ⟨pg, 0, none⟩) l pc) L from ⟨rg_keep hD5 HG4.out.1, th_keep hD5 HG4.out.2.1, hb05, th_keep hD5 HG4.out.2.2.2.2.1, hX5, (HW.out.2.2.2).ag (ag_below HLN.out.2.2.2.1 hb05)⟩)
    have HS0 := Lib.hid (show w5.drew.cell? ⟨b12, 0, none⟩ = some (.int .i32 0) ∧ w5.drew.cell? ⟨b13, 0, none⟩ = some (.slice (some ⟨pg, 0, none⟩) l pc) from ⟨later hD5 HC13.out.1, later hD5 HC13.out.2⟩)
    clear hb5 hD5 hX5 hb05 HG4 hd0 c12 c13 c64 HC13 hl1
    go_upto_region 18 with fail
    refine Pl.wp_region_split (fun w' => w'.cell? ⟨b12, 0, none⟩ = some (.int .i32 0) ∧ w'.cell? ⟨b13, 0, none⟩ = some (.slice (some ⟨pg, 0, none⟩) l pc)) 11 (by kernel_rfl) (by kernel_rfl) ?_
    simp only [List.take_succ_cons, List.take_zero]
    have hHeld := HS0.out
    refine Pl.take_l (i := 0) (v := ?v8) rfl (by kernel_rfl) (by kernel_rfl) (by kernel_rfl) (fun _ _ _ h => h) rfl ?hy8 hHeld ?rest8
    case hy8 => (intro w hSw; (try dsimp only at hSw); (try obtain ⟨_, _⟩ := hSw); go_simp <;> (try with_reducible rfl))
    try simp only [Act.put, List.setIfInBounds_toArray, List.set_cons_zero, List.set_cons_succ]
    refine Pl.take_l (i := 1) (v := ?v9) rfl (by kernel_rfl) (by kernel_rfl) (by kernel_rfl) (fun _ _ _ h => h) rfl ?hy9 hHeld ?rest9
    case hy9 => (intro w hSw; (try dsimp only at hSw); (try obtain ⟨_, _⟩ := hSw); go_simp <;> (try with_reducible rfl))
    try simp only [Act.put, List.setIfInBounds_toArray, List.set_cons_zero, List.set_cons_succ]
    refine Pl.take_l (i := 2) (v := ?v10) rfl (by kernel_rfl) (by kernel_rfl) (by kernel_rfl) (fun _ _ _ h => h) rfl ?hy10 hHeld ?rest10
    case hy10 => (intro w hSw; (try dsimp only at hSw); (try obtain ⟨_, _⟩ := hSw); go_simp <;> (try with_reducible rfl))
    try simp only [Act.put, List.setIfInBounds_toArray, List.set_cons_zero, List.set_cons_succ]
    generalize World.drew _ = wd at *
    refine Pl.alone_l (i := 3) (by kernel_rfl) rfl (fun K hK => ?_)
    go_simp; refine (cxl_any (.slice (some ⟨pg, 0, none⟩) l pc) L X wd HL.out.2.1 HL.out.2.2.2 HG5.out.2.2.2.2.1 HG5.out.2.2.2.2.2).mono ?_; rintro e w6 ⟨g7, rfl, hf, hb⟩; rw [← HLN.out.2.2.1] at hf ⊢; have HF := Lib.hid (And.intro hf hb); clear hf hb; dsimp only
    refine hK.out _ _ (⟨later HF.out.2 HS0.out.1, later HF.out.2 HS0.out.2⟩) (fun hHeld2 => ?_)
    clear hK K hHeld
    have hHeld := hHeld2
    clear hHeld2
    try simp only [Act.put, List.setIfInBounds_toArray, List.set_cons_zero, List.set_cons_succ]
    obtain ⟨gs, hgs⟩ : ∃ g, g = w6.heap.size := ⟨_, rfl⟩
    have h67 : Below w6.heap.size w6 (w6.alloc (.cells #[.slice (some ⟨g7, 0, none⟩) l l] 44)) := (Below.refl _ _).alloc (Nat.le_refl _) _
    have r67 := rg_new w6 #[.slice (some ⟨g7, 0, none⟩) l l] 44
    have hd7 := HF.out.2.trans (h67.mono HF.out.2.size)
    have hbs := bs_cpl (some ⟨g7, 0, none⟩) l l w6
    rw [← hgs] at r67 hbs
    have HF7 := Lib.hid (And.intro (HF.out.1.ag (ag_below (fun b h => h.2) h67)) (And.intro hd7 (And.intro r67 (show wd.heap.size ≤ gs ∧ gs < (w6.alloc (.cells #[.slice (some ⟨g7, 0, none⟩) l l] 44)).heap.size ∧ w6.heap.size = gs by rw [World.size_alloc, hgs]; exact ⟨HF.out.2.size, Nat.lt_succ_self _, rfl⟩))))
    rw [hgs.symm] at HF7
    clear h67 r67 hd7 hgs HF
    refine Pl.alone_l (i := 4) (by kernel_rfl) rfl (fun K hK => ?_)
    refine step_bs1 rfl 46 (.tmp 92) rfl _ _ _ ?hx hbs ?_; case hx => (show _ = _; rfl)
    refine hK.out _ _ (⟨later HF7.out.2.1 HS0.out.1, later HF7.out.2.1 HS0.out.2⟩) (fun hHeld2 => ?_)
    clear hK K hHeld
    have hHeld := hHeld2
    clear hHeld2
    try simp only [Act.put, List.setIfInBounds_toArray, List.set_cons_zero, List.set_cons_succ]
    clear hbs
    generalize World.alloc _ _ = w7 at *
    refine Pl.take_l (i := 5) (v := ?v11) rfl (by kernel_rfl) (by kernel_rfl) (by kernel_rfl) (fun _ _ _ h => h) rfl ?hy11 hHeld ?rest11
    case hy11 => (intro w hSw; (try dsimp only at hSw); (try obtain ⟨_, _⟩ := hSw); go_simp <;> (try with_reducible rfl))
    try simp only [Act.put, List.setIfInBounds_toArray, List.set_cons_zero, List.set_cons_succ]
    obtain ⟨q, hq⟩ : ∃ g, g = w7.heap.size := ⟨_, rfl⟩
    have h78 : Below w7.heap.size w7 (w7.alloc (.cells (ilc (.slice (some ⟨gs, 0, none⟩) 1 1)).toArray 121)) := (Below.refl _ _).alloc (Nat.le_refl _) _
    have r78 := rg_new w7 (ilc (.slice (some ⟨gs, 0, none⟩) 1 1)).toArray 121
    have hd8 := HF7.out.2.1.trans (h78.mono HF7.out.2.1.size)
    have s8 : (w7.alloc (.cells (ilc (.slice (some ⟨gs, 0, none⟩) 1 1)).toArray 121)).heap.size = q + 1 := by rw [World.size_alloc, hq]
    rw [← hq] at r78
    have HF8 := Lib.hid (And.intro (HF7.out.1.ag (ag_below (fun b h => Nat.lt_trans h.2 HF7.out.2.2.2.2.1) h78)) (And.intro hd8 (And.intro (rg_keep h78 HF7.out.2.2.1) (And.intro r78 (And.intro (show wd.heap.size ≤ gs ∧ gs < q by rw [hq]; exact ⟨HF7.out.2.2.2.1, HF7.out.2.2.2.2.1⟩) s8)))))
    have hbx : (Value.agg #[.slice (some ⟨gs, 0, none⟩) 1 1, .string ⟨#[]⟩, .string ⟨#[]⟩, .int .u8 2]).cells = (ilc (.slice (some ⟨gs, 0, none⟩) 1 1)).toArray := by rfl
    clear h78 r78 hd8 s8
    refine Pl.alone_l (i := 6) (by kernel_rfl) rfl (fun K hK => ?_)
    go_simp
    refine hK.out _ _ (⟨later HF8.out.2.1 HS0.out.1, later HF8.out.2.1 HS0.out.2⟩) (fun hHeld2 => ?_)
    clear hK K hHeld
    have hHeld := hHeld2
    clear hHeld2
    try simp only [Act.put, List.setIfInBounds_toArray, List.set_cons_zero, List.set_cons_succ]
    have hw8 : ∃ W, W = w7.alloc (.cells (ilc (.slice (some ⟨gs, 0, none⟩) 1 1)).toArray 121) := ⟨_, rfl⟩
    obtain ⟨w8, hw8⟩ := hw8
    rw [← hw8] at HF8
    rw [← hq]
    change wpAnyH _ _ _ _ _ _ _ _ (w7.alloc (.cells (ilc (.slice (some ⟨gs, 0, none⟩) 1 1)).toArray 121))
    rw [← hw8]
    replace hHeld := (⟨later HF8.out.2.1 HS0.out.1, later HF8.out.2.1 HS0.out.2⟩ : w8.cell? ⟨b12, 0, none⟩ = some (.int .i32 0) ∧ w8.cell? ⟨b13, 0, none⟩ = some (.slice (some ⟨pg, 0, none⟩) l pc))
    have HT8 := Lib.hid (show w8.there q 0 4 by rw [hw8, hq]; exact th_new w7 _ _ rfl)
    clear hw8 hq hbx
    refine Pl.take_l (i := 7) (v := ?v12) rfl (by kernel_rfl) (by kernel_rfl) (by kernel_rfl) (fun _ _ _ h => h) rfl ?hy12 hHeld ?rest12
    case hy12 => (intro w hSw; (try dsimp only at hSw); (try obtain ⟨_, _⟩ := hSw); go_simp <;> (try with_reducible rfl))
    try simp only [Act.put, List.setIfInBounds_toArray, List.set_cons_zero, List.set_cons_succ]
    refine Pl.take_l (i := 8) (v := ?v13) rfl (by kernel_rfl) (by kernel_rfl) (by kernel_rfl) (fun _ _ _ h => h) rfl ?hy13 hHeld ?rest13
    case hy13 => (intro w hSw; (try dsimp only at hSw); (try obtain ⟨_, _⟩ := hSw); go_simp <;> (try with_reducible rfl))
    try simp only [Act.put, List.setIfInBounds_toArray, List.set_cons_zero, List.set_cons_succ]
    have hT9 : Below w8.heap.size w8 (w8.alloc (.cells (isc q).toArray 56)) := (Below.refl _ _).alloc (Nat.le_refl _) _
    have hd9 := HF8.out.2.1.trans (hT9.mono HF8.out.2.1.size)
    have hb9 : Below w.heap.size w (w8.alloc (.cells (isc q).toArray 56)) := HG5.out.2.2.1.trans (hd9.mono HG5.out.2.2.1.size)
    have h14 := th_lt HG5.out.2.2.2.1 (by omega)
    have hI8 : ISt wd.heap.size q gs g7 l L w8 := ⟨⟨HF8.out.2.2.2.1, HT8.out⟩, HF8.out.2.2.1, HF8.out.1, HF8.out.2.2.2.2.1.1, HF8.out.2.2.2.2.1.2, by rw [HF8.out.2.2.2.2.2]; exact Nat.lt_succ_self _⟩
    have o9 := World.ownsRow_lit (base := w.heap.size) (e := 56) (size := 3) w8 (isc q).toArray 1 (by have := HG5.out.2.2.1.size; have := HF8.out.2.1.size; omega) (by unfold maxLen; omega) rfl
    have hX9 : BX b6 b14 (cmc (.slice a m c) (.slice (some ⟨lg, 0, none⟩) 1 lc) 0) [] none w (w8.alloc (.cells (isc q).toArray 56)) :=
      ⟨⟨rg_keep hd9 HG5.out.1, th_keep hd9 HG5.out.2.1⟩, ⟨fun j v hj => by simp at hj, th_keep hd9 HG5.out.2.2.2.1⟩, grown_below hb9 _, HB14.out.2.2.2, by have := HB14.out; omega⟩
    have HX10 := Lib.hid (hX9.set14 (cmc (.slice (some ⟨w8.heap.size, 0, none⟩) 1 1) (.slice none 0 0) 0) rfl)
    have HI10 := Lib.hid ((hI8.keep hT9).set (g := b14) (o := 0) (cmc (.slice (some ⟨w8.heap.size, 0, none⟩) 1 1) (.slice none 0 0) 0) (.inl h14))
    have HO10 := Lib.hid (own_fars (b := b14) (by simp [Value.ownBlock]; have := HF8.out.2.1.size; omega) (cmc (.slice (some ⟨w8.heap.size, 0, none⟩) 1 1) (.slice none 0 0) 0) 0 o9)
    have HTH := Lib.hid hX9.2.1.2
    have HONE := Lib.hid (cmc_all (some ⟨w8.heap.size, 0, none⟩) none 1 1 0 0 0)
    have hq8 : q < w8.heap.size ∧ wd.heap.size ≤ q := ⟨hI8.2.2.2.2.2, by have := hI8.2.2.2; omega⟩
    have HQ8 := Lib.hid (And.intro hq8 (And.intro h14 HG5.out.2.2.1.size))
    have HS9 := Lib.hid (show (w8.alloc (.cells (isc q).toArray 56)).cell? ⟨b12, 0, none⟩ = some (.int .i32 0) ∧ (w8.alloc (.cells (isc q).toArray 56)).cell? ⟨b13, 0, none⟩ = some (.slice (some ⟨pg, 0, none⟩) l pc) from ⟨later hd9 HS0.out.1, later hd9 HS0.out.2⟩)
    clear hT9 hd9 hb9 h14 hI8 o9 hX9 HF7 HF8 HT8 HG5 HS0 hq8
    obtain ⟨gq, hgq⟩ : ∃ g, g = w8.heap.size := ⟨_, rfl⟩
    have hbs := bs_sub 115 q w8
    rw [← hgq] at HX10 HI10 HO10 HONE HQ8 hbs
    clear hgq
    refine Pl.alone_l (i := 9) (by kernel_rfl) rfl (fun K hK => ?_)
    refine step_bs1 rfl 34 (.tmp 97) rfl _ _ _ ?hx hbs ?_; case hx => (show _ = _; rfl)
    refine hK.out _ _ HS9.out (fun hHeld2 => ?_)
    clear hK K hHeld
    have hHeld := hHeld2
    clear hHeld2
    try simp only [Act.put, List.setIfInBounds_toArray, List.set_cons_zero, List.set_cons_succ]
    clear hbs
    change wpAnyH _ _ _ _ _ _ _ _ (w8.alloc (.cells (isc q).toArray 56))
    replace hHeld := HS9.out
    clear HS9
    generalize w8.alloc _ = w9 at *
    refine Pl.take_l (i := 10) (v := ?v14) rfl (by kernel_rfl) (by kernel_rfl) (by kernel_rfl) (fun _ _ _ h => h) rfl ?hy14 hHeld ?rest14
    case hy14 => (intro w hSw; (try dsimp only at hSw); (try obtain ⟨_, _⟩ := hSw); go_simp <;> (try with_reducible rfl))
    try simp only [Act.put, List.setIfInBounds_toArray, List.set_cons_zero, List.set_cons_succ]
    refine wpAnyH_done (by kernel_rfl) ?_ _
    refine Pl.behind_normal (by decide) ?_
    simp only [List.drop_succ_cons, List.drop_zero]
    clear hHeld
    refine wpList_store_mid rfl 41 _ _ rfl b14 0 #[.pointer none, .slice (some ⟨gq, 0, none⟩) 1 1, .slice none 0 0, .int .i32 0, .int .u8 0, .bool false] ?ha ?hv HTH.out szCmp HONE.out ?_
    case ha => exact rfl
    case hv => (go_simp; done)
    change wpList _ _ _ _ _ (World.setCells _ b14 0 (cmc (.slice (some ⟨gq, 0, none⟩) 1 1) (.slice none 0 0) 0))
    generalize World.setCells _ _ _ _ = w10 at *
    have g0 := HX10.out.2.1.1 0 _ rfl
    have g1 := HX10.out.2.1.1 1 _ rfl
    simp only [Nat.zero_add] at g0 g1
    obtain ⟨i1, ji, jz0, jz1, jz2⟩ := info_parts infoSub
    have HJ := Lib.hid (And.intro ji (And.intro jz0 (And.intro jz1 jz2)))
    clear ji jz0 jz1 jz2 HTH HONE
    go_upto_region 19 with fail
    go_upto_region 26 with (first
      | (at_builtin
         refine wpl_app2 rfl (.tmp 130) (.tmp 132) _ rfl w.heap.size 56 i1 _ 3 24 Tryf.underlying34 HJ.out.1 HJ.out.2.1 HJ.out.2.2.1 HJ.out.2.2.2 rfl (by omega) (.slice none 0 0) 0 [] ?hs (World.ownsRow_nil _ _ _ _) (.slice (some ⟨gq, 0, none⟩) 1 1) w.heap.size 1 (isc q) ?hx HO10.out (isc_one _) (by unfold maxLen; omega) (by omega) HX10.out.2.2.1.size ?_; (case hs => exact rfl); (case hx => exact rfl)
         intro v1 w11 hown1 hgrow1 hat1
         rw [Nat.zero_add, List.nil_append] at hown1
         obtain ⟨p1, c1, hv1⟩ := own_slice hown1
         subst hv1))
    have hX11 := HX10.out.grown hgrow1 (by simp [Value.ownBlock]) (by simp [Value.ownBlock]) (by simp [Value.ownBlock])
    have HI11 := Lib.hid (HI10.out.grown hgrow1 (fun x hx => by simp [Value.ownBlock] at hx))
    have hp1 : ∀ x, (Value.slice p1 1 c1).ownBlock = some x → w10.heap.size ≤ x := fun x hx => by
      rcases hat1 with h | h
      · rw [h] at hx; simp [Value.ownBlock] at hx
      · rw [h] at hx; injection hx with hx; omega
    have HX11 := Lib.hid hX11
    have HV1 := Lib.hid (And.intro hown1 hp1)
    clear hX11 hown1 hgrow1 hat1 HX10 g0 g1
    have g61 := HX11.out.1.1 1 _ rfl
    simp only [Nat.zero_add] at g61
    go_upto_region 27 with fail
    have hs11 : (Value.slice p1 1 c1).ownBlock ≠ none := by
      obtain ⟨g, cc, hve, -, -⟩ := HV1.out.1.form (by omega)
      rw [hve]; simp [Value.ownBlock]
    have HNZ := Lib.hid hs11
    clear hs11
    obtain ⟨Ps, hPs1, hPs2, hPs3, hPs4⟩ := HW.out.2.2.1.ag (w' := w11) (fun b h => HX11.out.2.2.1.block b (HLN.out.2.2.2.1 b h) (by simp))
    have hml : m = Ps.length := own_len hPs1
    rw [← hml] at hPs1
    have HS11 := Lib.hid (And.intro hPs1 (And.intro hPs2 (And.intro hPs3 (And.intro hPs4 hml))))
    clear hPs1 hPs2 hPs3 hPs4 hml
    go_wp2_with (first
      | (at_builtin
         refine wpl_app2 rfl (.tmp 137) (.tmp 139) _ rfl w.heap.size 56 i1 _ 3 24 Tryf.underlying34 HJ.out.1 HJ.out.2.1 HJ.out.2.2.1 HJ.out.2.2.2 rfl (by omega) (.slice p1 1 c1) 1 (isc q) ?hs HV1.out.1 (.slice a m c) 0 m (Ps.flatMap spc) ?hx (own_zero HS11.out.1) (spc_one _) (by unfold maxLen; omega) (by omega) HX11.out.2.2.1.size ?_; (case hs => exact rfl); (case hx => exact rfl)
         intro v2 w12 hown2 hgrow2 hat2
         obtain ⟨p2, c2, hv2⟩ := own_slice hown2
         subst hv2
         have hne61 : some b6 ≠ (Value.slice p1 1 c1).ownBlock := fun e => by have := HV1.out.2 _ e.symm; have := HX11.out.lt; have := HI10.out.2.2.2.2.2; have := HQ8.out; have := HB14.out; omega
         have hne62 : some b14 ≠ (Value.slice p1 1 c1).ownBlock := fun e => by have := HV1.out.2 _ e.symm; have := HX11.out.lt; have := HI10.out.2.2.2.2.2; have := HQ8.out; omega
         have hX12 := HX11.out.grown hgrow2 hne61 hne62 (fun x hx => by have := HV1.out.2 _ hx; have := HI10.out.2.2.2.2.2; have := HQ8.out; omega)
         have z61 := (hX12.1.2 1 (by omega)).2
         have g61 := hX12.1.1 1 _ rfl
         simp only [Nat.zero_add] at g61 z61))
    have hI12 := HI11.out.grown hgrow2 (fun x hx => .inr (by have := HV1.out.2 _ hx; have := HI10.out.2.2.2.2.2; omega))
    have hb2 : (Value.slice p2 (1 + m) c2).ownBlock ≠ some b6 := fun e => by
      rcases hat2 with h | h
      · exact hne61 (by rw [← h, e])
      · rw [h] at e
        injection e with e
        have := HX11.out.lt
        omega
    have HBQ := Lib.hid (show (Value.slice p2 (1 + m) c2).ownBlock ≠ some q from fun e => by
      rcases hat2 with h | h
      · have := HV1.out.2 q (by rw [← h, e])
        have := HI10.out.2.2.2.2.2
        omega
      · rw [h] at e
        injection e with e
        have := HI11.out.2.2.2.2.2
        omega)
    have HQ14 := Lib.hid HQ8.out.2.1
    have hb6D : b6 < wd.heap.size := by have := HQ8.out; have := HB14.out; omega
    have HXq := Lib.hid (hX12.subs6 (u := .slice p2 (1 + m) c2))
    have HIq := Lib.hid (show ISt wd.heap.size q gs g7 l L (w12.setCell ⟨b6, 1, none⟩ (.slice p2 (1 + m) c2)) from hI12.set (g := b6) (o := 1) [.slice p2 (1 + m) c2] (.inl hb6D))
    have HOq := Lib.hid (And.intro (show (w12.setCell ⟨b6, 1, none⟩ (.slice p2 (1 + m) c2)).ownsRow w.heap.size 56 3 (.slice p2 (1 + m) c2) (1 + m) (isc q ++ Ps.flatMap spc) from own_fars hb2 [.slice p2 (1 + m) c2] 1 hown2) hb2)
    have HPS := Lib.hid (show Ps.map (·.2) = N ∧ ∀ x ∈ Ps, X x.1 ∧ w.rangeAt x.1 0 (psc x.2) from ⟨HS11.out.2.1, fun x hx => ⟨(HS11.out.2.2.2.1 x hx).1, rg_ag (HX11.out.2.2.1.block _ (HLN.out.2.2.2.1 _ (HS11.out.2.2.2.1 x hx).1) (by simp)).symm (HS11.out.2.2.2.1 x hx).2⟩⟩)
    have HS11 := Lib.hid HS11.out.2.2.2.2
    clear hX12 hown2 hgrow2 hat2 hne61 hne62 z61 g61 hI12 hb2 hb6D HX11 HI11 HV1 HI10 HO10 HNZ
    generalize w12.setCell _ _ = wq at *
    have HD6 := Lib.hid (show b6 < wd.heap.size ∧ b6 < q ∧ w.heap.size ≤ wd.heap.size from ⟨by have := HQ8.out; have := HB14.out; omega, by have := HQ8.out; have := HB14.out; omega, HQ8.out.2.2⟩)
    generalize wd.heap.size = D at *
    have c62 := HXq.out.1.1 2 _ rfl
    have c61 := HXq.out.1.1 1 _ rfl
    have z62 := (HXq.out.1.2 2 (by omega)).2
    simp only [Nat.zero_add] at c62 c61 z62
    obtain ⟨M, hM⟩ : ∃ M, M = 1 + m := ⟨_, rfl⟩
    rw [← hM] at HXq HOq HBQ c61
    try rw [← hM]
    have HMM := Lib.hid hM
    clear hM
    rw [rounds_succ]
    go_wp2_with fail
    clear c62 c61 z62
    have HXS := Lib.hid (HXq.out.nest6 (u := .slice none 0 0))
    have HIS := Lib.hid (show ISt D q gs g7 l L (wq.setCell ⟨b6, 2, none⟩ (.slice none 0 0)) from HIq.out.set (g := b6) (o := 2) [.slice none 0 0] (.inl HD6.out.1))
    have HOS := Lib.hid (show (wq.setCell ⟨b6, 2, none⟩ (.slice none 0 0)).ownsRow w.heap.size 56 3 (.slice p2 M c2) M (isc q ++ Ps.flatMap spc) from own_fars HOq.out.2 [.slice none 0 0] 2 HOq.out.1)
    clear HXq HIq HOq
    generalize wq.setCell _ _ = wS at *
    have HST := Lib.hid (show BX b6 b14 (cmc (.slice p2 M c2) (.slice none 0 0) 0) (cmc (.slice (some ⟨gq, 0, none⟩) 1 1) (.slice none 0 0) 0) none w wS ∧ wS.ownsRow w.heap.size 56 3 (.slice p2 M c2) M (isc q ++ Ps.flatMap spc) from ⟨HXS.out, HOS.out⟩)
    clear HXS HOS
    go_loopw [147] (fun i wr => ∃ (z : Nat), z ≤ M ∧ i = .int .i64 (z : Nat) ∧ Hid (BX b6 b14 (cmc (.slice p2 M c2) (.slice none 0 0) 0) (cmc (.slice (some ⟨gq, 0, none⟩) 1 1) (.slice none 0 0) 0) none w wr ∧ wr.ownsRow w.heap.size 56 3 (.slice p2 M c2) M (isc q ++ Ps.flatMap spc)) ∧ Hid ((z = 0 ∧ ISt D q gs g7 l L wr) ∨ (0 < z ∧ IFin D q L wr))) (fun i _ => M - (intOf i).toNat)
    case atStart => exact ⟨0, Nat.zero_le _, rfl, HST, Lib.hid (.inl ⟨rfl, HIS.out⟩)⟩
    case round =>
      obtain ⟨z, hz, rfl, HBW, HZ⟩ := hrel
      clear HST HIS
      by_cases hlt : z < M
      · have hmm : M ≤ 1048577 := by have := HMM.out; omega
        have q0 : (0 : Int) ≤ z := by omega
        have q1 : (z : Int) < (M : Nat) := by omega
        obtain ⟨gv, cv, hve, -, -⟩ := HBW.out.2.form (by omega)
        simp only [Value.slice.injEq] at hve
        obtain ⟨rfl, hx1, rfl⟩ := hve
        clear hx1
        rcases HZ.out with ⟨rfl, hIS⟩ | ⟨hz1, hIF⟩
        · as_aux_lemma =>
          have HI := Lib.hid hIS
          have r1 : wr.rangeAt gv 0 (isc q) := fun j u hu => by
            have hj : j < 3 := (List.getElem?_eq_some_iff.1 hu).1
            rw [Nat.zero_add, HBW.out.2.cellAt j (by omega), List.getElem?_append_left (List.getElem?_eq_some_iff.1 hu).1]
            exact hu
          have y0 := r1 0 _ rfl
          have y1 := r1 1 _ rfl
          have y2 := r1 2 _ rfl
          simp only [Nat.add_zero] at y0
          have hta := fun W => ta_yes q W
          have hq0 := HI.out.1.1 0 _ rfl
          have hqlt := HI.out.2.2.2.2.2
          clear r1 hIS HZ
          obtain ⟨k0, hk0, kz0, kz1, kz2⟩ := info_parts infoCpl
          obtain ⟨i0, hi0, hz0, hz1', hz2⟩ := info_parts infoCmp
          have hmk1 : ∀ W : World, (Instr.makeSlice 46 (.int .i64 0) (.int .i64 1)).run Tryf.prog W = .ok (.slice (some ⟨W.heap.size, 0, none⟩) 0 1) (W.alloc (.cells (madeCells #[.slice none 0 0] (1 * 1)) 44)) := fun W => by
            have h := run_make_rowN (P := Tryf.prog) 46 44 k0 _ (by kernel_rfl) hk0 kz0 .i64 .i64 0 1 (by omega) (by rw [kz2]; omega) (by omega) W
            rw [kz1] at h
            exact h
          have hmk2 : ∀ W : World, (Instr.makeSlice 31 (.int .i64 0) (.int .i64 (l : Int))).run Tryf.prog W = .ok (.slice (some ⟨W.heap.size, 0, none⟩) 0 l) (W.alloc (.cells (madeCells #[.pointer none, .slice none 0 0, .slice none 0 0, .int .i32 0, .int .u8 0, .bool false] (l * 6)) 41)) := fun W => by
            have h := run_make_rowN (P := Tryf.prog) 31 41 i0 _ (by kernel_rfl) hi0 hz0 .i64 .i64 0 l (by omega) (by rw [hz2]; omega) (by omega) W
            rw [hz1'] at h
            exact h
          have HK := Lib.hid (And.intro hk0 (And.intro kz0 (And.intro kz1 kz2)))
          have HC0 := Lib.hid (And.intro hi0 (And.intro hz0 (And.intro hz1' hz2)))
          clear hk0 kz0 kz1 kz2 hi0 hz0 hz1' hz2
          obtain ⟨R0, ho7, hR0, hR0X, hR0m⟩ := HI.out.2.2.1
          have hlR : l = R0.length := own_len ho7
          have HF7 := Lib.hid (show wr.ownsRow 0 41 6 (.slice (some ⟨g7, 0, none⟩) R0.length R0.length) R0.length (R0.flatMap Cr.cells) ∧ R0.map (·.m) = L ∧ (∀ r ∈ R0, FCm (fun b => D ≤ b ∧ b < gs) wr r) ∧ l = R0.length from ⟨by rw [← hlR] at ho7 ⊢; exact ho7, hR0, hR0m, hlR⟩)
          clear ho7 hR0 hR0X hR0m hlR
          go_upto_block 4 with fail
          have ha1 : Below wr.heap.size wr (wr.alloc (.cells #[.iface 115 (.pointer (some ⟨q, 0, none⟩)), .int .i32 0, .int .i32 0] 56)) := (Below.refl _ _).alloc (Nat.le_refl _) _
          have hs1 : (wr.alloc (.cells #[.iface 115 (.pointer (some ⟨q, 0, none⟩)), .int .i32 0, .int .i32 0] 56)).heap.size = wr.heap.size + 1 := World.size_alloc _ _
          generalize wr.alloc (.cells #[.iface 115 (.pointer (some ⟨q, 0, none⟩)), .int .i32 0, .int .i32 0] 56) = x1 at *
          have ho1 := World.ownsRow_made (base := wr.heap.size) (e := 44) (size := 1) x1 (madeCells #[.slice none 0 0] 1) 1 (by omega) (by unfold maxLen; omega) (by simp [madeCells])
          have ha2 : Below wr.heap.size wr (x1.alloc (.cells (madeCells #[.slice none 0 0] 1) 44)) := ha1.alloc ha1.size _
          generalize x1.alloc _ = w20 at *
          obtain ⟨g21, hg21⟩ : ∃ g, g = wr.heap.size + 1 := ⟨_, rfl⟩
          rw [hs1, ← hg21] at ho1
          rw [← hg21]
          have HG21 := Lib.hid (show wr.heap.size ≤ g21 by omega)
          have H20 := Lib.hid (And.intro ha2 ho1)
          have hgs1 := later ha2 (HI.out.2.1 0 _ rfl)
          rw [Nat.zero_add] at hgs1
          clear hg21 hs1 ha1 ha2 ho1 hmk1 y0 y1 y2 hta hq0
          refine wp_block ?_
          refine wp_loop_rounds 2 ?_
          rw [rounds_succ]
          go_upto_block 6 with fail
          have ha3 : Below w20.heap.size w20 (w20.alloc (.cells #[.slice (some ⟨g7, 0, none⟩) l l] 44)) := (Below.refl _ _).alloc (Nat.le_refl _) _
          have hs3 : (w20.alloc (.cells #[.slice (some ⟨g7, 0, none⟩) l l] 44)).heap.size = w20.heap.size + 1 := World.size_alloc _ _
          generalize w20.alloc (.cells #[.slice (some ⟨g7, 0, none⟩) l l] 44) = x3 at *
          have ho3 := World.ownsRow_made (base := w20.heap.size) (e := 41) (size := 6) x3 (madeCells #[.pointer none, .slice none 0 0, .slice none 0 0, .int .i32 0, .int .u8 0, .bool false] (l * 6)) l (by omega) (by unfold maxLen; omega) (by simp [madeCells])
          have ha4 : Below w20.heap.size w20 (x3.alloc (.cells (madeCells #[.pointer none, .slice none 0 0, .slice none 0 0, .int .i32 0, .int .u8 0, .bool false] (l * 6)) 41)) := ha3.alloc ha3.size _
          generalize x3.alloc _ = w22 at *
          obtain ⟨g24, hg24⟩ : ∃ g, g = w20.heap.size + 1 := ⟨_, rfl⟩
          rw [hs3, ← hg24] at ho3
          rw [← hg24]
          have H22 := Lib.hid (show InR (fun b => D ≤ b ∧ b < gs) L 0 (.slice (some ⟨g24, 0, none⟩) 0 l) w20 w22 from ⟨⟨[], by simp, ho3, fun r hr => by cases hr⟩, grown_below ha4 _⟩)
          clear hg24 hs3 ha3 ha4 ho3 hmk2 hgs1
          obtain ⟨wo, hwo⟩ : ∃ x, x = wr := ⟨_, rfl⟩
          subst hwo
          refine wp_block ?_
          go_loopw [24, 180] (fun v i wr => ∃ (k : Nat) (va : Option Addr) (vc : Nat), k ≤ l ∧ i = .int .i64 (k : Nat) ∧ v = .slice va k vc ∧ Hid (InR (fun b => D ≤ b ∧ b < gs) L k (.slice va k vc) w20 wr)) (fun _ i _ => l - (intOf i).toNat)
          case atStart => exact ⟨0, some ⟨g24, 0, none⟩, l, Nat.zero_le _, rfl, rfl, H22⟩
          case round =>
            obtain ⟨k, va, vc, hk, rfl, rfl, HV⟩ := hrel
            clear H22
            by_cases hlt2 : k < l
            · as_aux_lemma =>
              have q2 : (0 : Int) ≤ k := by omega
              have q3 : (k : Int) < (l : Nat) := by omega
              have kR : k < R0.length := by have := HF7.out.2.2.2; omega
              have kL : k < L.length := by have := HLN.out.2.2.1; omega
              have hbx : Below wo.heap.size wo wr := H20.out.1.trans ((below_of_grown HV.out.2).mono H20.out.1.size)
              have r0 := own_range (f := Cr.cells) (s := 6) (L := R0) (own_keep HF7.out.1 hbx) (fun x => rfl) kR
              have hfm := HF7.out.2.2.1 _ (List.getElem_mem kR)
              have hm : (R0[k]).m = L[k] := by
                have h := List.getElem_of_eq HF7.out.2.1 (i := k) (by simpa using kR)
                simpa using h
              obtain ⟨r, hr⟩ : ∃ r, r = R0[k] := ⟨_, rfl⟩
              rw [← hr] at r0 hfm hm
              clear hr kR
              have h00 := HL.out.2.2.2 _ (List.getElem_mem kL)
              rw [← hm] at h00
              have hXr : ∀ b, (D ≤ b ∧ b < gs) → b < wo.heap.size := fun b hb => by have := HI.out.2.2.2; omega
              obtain ⟨hsub, an, cn, hvn, hloc⟩ := hfm.ag (ag_below hXr hbx)
              obtain ⟨vs, vn, mm⟩ := r
              dsimp only at hsub hvn h00 hm r0
              rw [h00.1] at hvn
              subst hvn
              obtain ⟨P', ho', hP', _, _⟩ := id hsub
              obtain ⟨sa, sc, rfl⟩ := own_slice ho'
              obtain ⟨pn, hpn⟩ : ∃ n, n = P'.length := ⟨_, rfl⟩
              rw [← hpn] at r0 hsub
              obtain ⟨cb2, am, N2⟩ := mm
              dsimp only at r0 h00 hsub
              have HSB := Lib.hid (And.intro hsub (And.intro h00.2 h00.1))
              have HM := Lib.hid hm
              obtain ⟨⟨Ri, hRi, hRo, hRf⟩, hRg⟩ := HV.out
              have HRI := Lib.hid (And.intro hRi (And.intro hRo (And.intro hRf hRg)))
              clear hRi hRo hRf hRg
              have HRG := Lib.hid (show wr.rangeAt g7 (k * 6) (cmc (.slice sa pn sc) (.slice an 0 cn) cb2) from r0)
              have HXL := Lib.hid (show ∀ b, (D ≤ b ∧ b < gs) → b < wr.heap.size from fun b h => Nat.lt_of_lt_of_le (hXr b h) hbx.size)
              clear hsub hloc ho' hP' hpn r0 h00 hbx hm hXr hfm
              go_upto_region 43 with (first
                | (refine wpList_load_mid rfl 41 _ rfl g7 (k * 6) rfl (cmc (.slice sa pn sc) (.slice an 0 cn) cb2) dC HRG.out hC hC2 szCmp ?_)
                | (refine wpList_store_mid rfl 41 _ _ rfl wr.heap.size 0 (cmc (.slice sa pn sc) (.slice an 0 cn) cb2).toArray rfl rfl (th_new wr _ _ rfl) szCmp (cmc_all _ _ _ _ _ _ _) ?_))
              have hbS : Below wr.heap.size wr ((wr.alloc (.cells #[.pointer none, .slice none 0 0, .slice none 0 0, .int .i32 0, .int .u8 0, .bool false] 41)).setCells wr.heap.size 0 (cmc (.slice sa pn sc) (.slice an 0 cn) cb2)) := below_setCells (Nat.le_refl _) _ _ ((Below.refl _ _).alloc (Nat.le_refl _) _)
              have hrS : ((wr.alloc (.cells #[.pointer none, .slice none 0 0, .slice none 0 0, .int .i32 0, .int .u8 0, .bool false] 41)).setCells wr.heap.size 0 (cmc (.slice sa pn sc) (.slice an 0 cn) cb2)).rangeAt wr.heap.size 0 (cmc (.slice sa pn sc) (.slice an 0 cn) cb2) := World.rangeAt_setCells_same _ _ _ _ (th_new wr _ _ rfl)
              generalize World.setCells _ _ _ _ = w5 at *
              have HB5 := Lib.hid (And.intro hbS hrS)
              clear hbS hrS
              obtain ⟨bx, hbx⟩ : ∃ b, b = wr.heap.size := ⟨_, rfl⟩
              rw [← hbx]
              have HRS := Lib.hid (show w5.rangeAt bx 0 (cmc (.slice sa pn sc) (.slice an 0 cn) cb2) by rw [hbx]; exact HB5.out.2)
              clear hbx HRG
              go_wp2_with (first
                | (refine wpList_load_mid rfl 41 _ rfl bx 0 rfl (cmc (.slice sa pn sc) (.slice an 0 cn) cb2) dC HRS.out hC hC2 szCmp ?_))
              refine (sub0_any pp (.func (.func 28) #[] #[.pointer (some ⟨fb, 0, none⟩)]) (.slice sa pn sc) an cn cb2 N2 (fun b => D ≤ b ∧ b < gs) (.slice va k vc) k w20.heap.size (Ri.flatMap Cr.cells) 1 w5 (by omega) (Nat.le_trans HRI.out.2.2.2.size HB5.out.1.size) (fun b h => Nat.lt_of_lt_of_le (HXL.out b h) HB5.out.1.size) (HSB.out.1.ag (ag_below HXL.out HB5.out.1)) (own_keep HRI.out.2.1 HB5.out.1)).mono ?_
              rintro e w7 ⟨g8, c8, rfl, hown, hgrow, hat⟩
              have hRg7 : w20.grownBy w7 none := grown_new (grown_then HRI.out.2.2.2 HB5.out.1) hgrow (fun x hx => (HRI.out.2.1.lt x hx).1)
              have HN := Lib.hid (show InR (fun b => D ≤ b ∧ b < gs) L (k + 1) (.slice (some ⟨g8, 0, none⟩) (k + 1) c8) w20 w7 from by
                refine ⟨⟨Ri ++ [⟨.slice sa pn sc, .slice none 0 0, ⟨cb2, 0, N2⟩⟩], ?_, ?_, fun r hr => ?_⟩, hRg7⟩
                · rw [List.map_append, HRI.out.1, List.take_succ_eq_append_getElem kL, ← HM.out, HSB.out.2.2]
                  rfl
                · rw [List.flatMap_append]
                  simpa [Cr.cells] using hown
                · rcases List.mem_append.1 hr with h | h
                  · exact HRI.out.2.2.1 r h
                  · obtain rfl : r = ⟨.slice sa pn sc, .slice none 0 0, ⟨cb2, 0, N2⟩⟩ := by simpa using h
                    refine ⟨HSB.out.1.ag (fun b hb => (HRI.out.2.2.2.block b ?_ (by simp)).symm), none, 0, rfl, fun j hj => absurd hj (Nat.not_lt_zero _)⟩
                    have := HI.out.2.2.2
                    have := H20.out.1.size
                    omega)
              clear hown hgrow hat hRg7 HRI HB5 HRS HSB HM HV
              go_wp2_with fail
              refine ⟨⟨_, _, _, _, _, _, _, _, _, _, _, _, ?rel, rfl⟩, ?meas⟩
              case rel => exact ⟨k + 1, some ⟨g8, 0, none⟩, c8, by omega, by go_num, rfl, HN⟩
              case meas =>
                show l - (intOf (.int .i64 ((k : Int) + 1))).toNat < l - (intOf (.int .i64 (k : Int))).toNat
                simp only [intOf]
                omega
            · as_aux_lemma =>
              have hkl : l = k := by omega
              subst hkl
              obtain ⟨⟨Ri, hRi, hRo, hRf⟩, hRg⟩ := HV.out
              have hRL : Ri.map (·.m) = L := by rw [hRi, HLN.out.2.2.1, List.take_length]
              have hRl : Ri.length = l := by rw [HLN.out.2.2.1, ← hRL, List.length_map]
              have HRI := Lib.hid (And.intro hRL (And.intro hRo (And.intro hRf (And.intro hRg hRl))))
              have hbx : Below wo.heap.size wo wr := H20.out.1.trans ((below_of_grown hRg).mono H20.out.1.size)
              have hal : Below wr.heap.size wr (wr.alloc (.cells #[.slice va l vc] 44)) := (Below.refl _ _).alloc (Nat.le_refl _) _
              have HBX := Lib.hid (And.intro hbx (hbx.trans (hal.mono hbx.size)))
              have HO21 := Lib.hid (own_zero (own_keep (own_keep H20.out.2 (below_of_grown hRg)) hal))
              clear hRi hRo hRf hRg hRL hRl hbx hal hlt2 hk
              go_wp2_with (first
                | (refine wpl_bs1 rfl 46 (.tmp 192) rfl _ _ _ ?hx (bs_cpl va l vc wr) ?_; case hx => (show _ = _; rfl))
                | (at_builtin
                   refine wpList_append_lies _ rfl (.tmp 190) (.tmp 193) _ rfl 0 44 k0 _ 1 24 Tryf.underlying46 HK.out.1 HK.out.2.1 HK.out.2.2.1 HK.out.2.2.2 rfl (by omega) (.slice (some ⟨g21, 0, none⟩) 0 1) 0 [] ?hs HO21.out ⟨wr.heap.size, 0, none⟩ 1 1 [.slice va l vc] ?hx (by rfl) (World.news_of_block (heap_alloc_new wr _)) (fun u hu => by simp at hu; subst hu; rfl) (by omega) (by unfold maxLen; omega) (by omega) (Nat.zero_le _) (wr.heap.size + 1) (by simp) ?_; (case hs => exact rfl); (case hx => exact rfl)
                   intro g9 cap9 w9 hown9 hgrow9 hat9 hlt9
                   have hqb : w9.heap[q]? = wo.heap[q]? := (hgrow9.block q (Nat.lt_of_lt_of_le hqlt HBX.out.2.size) (fun e => by simp [Value.ownBlock] at e; have := HG21.out; omega)).trans (HBX.out.2.block q hqlt)
                   have t9 := th_ag hqb HI.out.1.2
                   have zq := (t9 0 (by omega)).2
                   obtain ⟨uq, huq⟩ := Option.isSome_iff_exists.1 (t9 0 (by omega)).1
                   rw [Nat.zero_add] at zq huq))
              rw [rounds_succ]
              go_wp2_with fail
              have hwo9 : ∀ b, b < wo.heap.size → w9.heap[b]? = wo.heap[b]? := fun b hb => (hgrow9.block b (Nat.lt_of_lt_of_le hb HBX.out.2.size) (fun e => by simp [Value.ownBlock] at e; have := HG21.out; omega)).trans (HBX.out.2.block b hb)
              have hsz9 : wo.heap.size ≤ w9.heap.size := Nat.le_trans HBX.out.2.size hgrow9.size
              have hgq9 : g9 < w9.heap.size := (hown9.lt g9 rfl).2
              have hg9 : wo.heap.size ≤ g9 := by
                rcases hat9 with h | h
                · simp [Value.ownBlock] at h
                  have := HG21.out
                  omega
                · have := HBX.out.2.size
                  have := HBX.out.1.size
                  omega
              have hall : Below wr.heap.size wr (wr.alloc (.cells #[.slice va l vc] 44)) := (Below.refl _ _).alloc (Nat.le_refl _) _
              have hri1 := own_keep HRI.out.2.1 hall
              have hri9 := hri1.kept hgrow9 (own_ne hri1 HO21.out (by decide))
              have hriq : (Value.slice va l vc).ownBlock ≠ some q := fun e => by have := (hri9.lt q e).1; have := H20.out.1.size; omega
              have hsetq : ∀ b, b ≠ q → (w9.setCell ⟨q, 0, none⟩ (.slice (some ⟨g9, 0, none⟩) 1 cap9)).heap[b]? = w9.heap[b]? := fun b hb => heap_setCell_other w9 _ b _ hb
              have hszq : (w9.setCell ⟨q, 0, none⟩ (.slice (some ⟨g9, 0, none⟩) 1 cap9)).heap.size = w9.heap.size := by simp [World.setCell]
              have hgw : w.grownBy w9 none := grown_new (grown_then HBW.out.1.2.2.1 HBX.out.2) hgrow9 (fun x hx => by simp [Value.ownBlock] at hx; have := HG21.out; have := HBW.out.1.2.2.1.size; omega)
              have hwD : w.heap.size ≤ D := HD6.out.2.2
              have hDq : D ≤ gs ∧ gs < q := HI.out.2.2.2.1 |> fun h => ⟨h, HI.out.2.2.2.2.1⟩
              have hbx6 := HBW.out.1.lt
              have hw14 : b14 < D := HQ14.out
              have hb6D : b6 < D := HD6.out.1
              have hBXf : BX b6 b14 (cmc (.slice (some ⟨gv, 0, none⟩) M c2) (.slice none 0 0) 0) (cmc (.slice (some ⟨gq, 0, none⟩) 1 1) (.slice none 0 0) 0) none w (w9.setCell ⟨q, 0, none⟩ (.slice (some ⟨g9, 0, none⟩) 1 cap9)) :=
                HBW.out.1.ag ((hsetq b6 (by omega)).trans (hwo9 b6 hbx6.1)) ((hsetq b14 (by omega)).trans (hwo9 b14 hbx6.2)) (grown_set1 hgw _ (by show w.heap.size ≤ q; omega))
              have hgvq : gv ≠ q := fun e => HBQ.out (by simp [Value.ownBlock, e])
              have hgvl := (HBW.out.2.lt gv rfl).2
              have hOwf : (w9.setCell ⟨q, 0, none⟩ (.slice (some ⟨g9, 0, none⟩) 1 cap9)).ownsRow w.heap.size 56 3 (.slice (some ⟨gv, 0, none⟩) M c2) M (isc q ++ Ps.flatMap spc) :=
                own_ag HBW.out.2 (fun g hg => by
                  obtain rfl : gv = g := by simpa [Value.ownBlock] using hg
                  exact (hsetq gv hgvq).trans (hwo9 gv hgvl))
              have hag20 : ∀ b, (D ≤ b ∧ b < gs) → (w9.setCell ⟨q, 0, none⟩ (.slice (some ⟨g9, 0, none⟩) 1 cap9)).heap[b]? = w20.heap[b]? := fun b hb =>
                (hsetq b (by omega)).trans ((hwo9 b (by omega)).trans (H20.out.1.block b (by omega)).symm)
              have hIFf : IFin D q L (w9.setCell ⟨q, 0, none⟩ (.slice (some ⟨g9, 0, none⟩) 1 cap9)) := by
                refine ⟨g9, cap9, .slice va l vc, ilc_set (rg_ag (hwo9 q hqlt) HI.out.1.1), ?_, ⟨Ri, ?_, HRI.out.1, fun g hg => ?_, fun r hr => ((HRI.out.2.2.1 r hr).ag hag20).more (fun b hb => ⟨hb.1, by rw [hszq]; omega⟩)⟩, by omega, by rw [hszq]; exact hgq9, by rw [hszq]; omega, by omega⟩
                · have h9 := hown9.cells (g := g9) rfl 0 (.slice va l vc) (by simp)
                  have hne : g9 ≠ q := by omega
                  rw [World.cell?_of_block (a := ⟨g9, 0, none⟩) (hsetq g9 hne)]
                  exact h9
                · have h := own_zero (own_fars hriq [.slice (some ⟨g9, 0, none⟩) 1 cap9] 0 hri9)
                  rw [HRI.out.2.2.2.2]
                  exact h
                · have := hri9.lt g hg
                  have := H20.out.1.size
                  rw [hszq]
                  omega
              exact ⟨⟨1, by omega, by go_num, Lib.hid ⟨hBXf, hOwf⟩, Lib.hid (.inr ⟨by omega, hIFf⟩)⟩, by simp [intOf]; omega⟩
        · as_aux_lemma =>
          have HI := Lib.hid hIF
          have kl : z - 1 < Ps.length := by have := HMM.out; have := HS11.out; omega
          have r0 : wr.rangeAt gv (z * 3) (sbc (Ps[z - 1]).1) := fun j u hu => by
            have hj : j < 3 := (List.getElem?_eq_some_iff.1 hu).1
            rw [HBW.out.2.cellAt (z * 3 + j) (by omega), List.getElem?_append_right (by show 3 ≤ z * 3 + j; omega), show z * 3 + j - (isc q).length = (z - 1) * 3 + j by show z * 3 + j - 3 = _; omega, flat_at spc (s := 3) (fun _ => rfl) Ps (z - 1) j kl hj]
            exact hu
          obtain ⟨p, hp⟩ : ∃ p, p = (Ps[z - 1]).1 := ⟨_, rfl⟩
          rw [← hp] at r0
          have y0 := r0 0 _ rfl
          have y1 := r0 1 _ rfl
          have y2 := r0 2 _ rfl
          simp only [Nat.add_zero] at y0
          have hta := fun W => ta_no p W
          have HZ1 := Lib.hid hz1
          clear r0 hp kl HZ hIF hz1
          go_wp2_with fail
          have hal : Below wr.heap.size wr (wr.alloc (.cells #[.iface 124 (.pointer (some ⟨p, 0, none⟩)), .int .i32 0, .int .i32 0] 56)) := (Below.refl _ _).alloc (Nat.le_refl _) _
          exact ⟨⟨z + 1, by omega, by go_num, Lib.hid ⟨HBW.out.1.keep hal, own_keep HBW.out.2 hal⟩, Lib.hid (.inr ⟨by omega, HI.out.keep hal⟩)⟩, by simp [intOf]; omega⟩
      · as_aux_lemma =>
        have hzM : M = z := by omega
        subst hzM
        have hIF : IFin D q L wr := by
          rcases HZ.out with ⟨h, _⟩ | ⟨_, h⟩
          · have := HMM.out; omega
          · exact h
        have hal : Below wr.heap.size wr (wr.alloc (.cells #[.pointer none, .slice p2 M c2, .slice none 0 0, .int .i32 0, .int .u8 0, .bool false] 41)) := (Below.refl _ _).alloc (Nat.le_refl _) _
        have HI := Lib.hid (hIF.keep hal)
        obtain ⟨i0, hi, hz0, hz1, hz2⟩ := info_parts infoCmp
        have HC0 := Lib.hid (And.intro hi (And.intro hz0 (And.intro hz1 hz2)))
        have hbw := below_of_grown HBW.out.1.2.2.1
        have HRW := Lib.hid (And.intro (own_keep HR.out.1 hbw) (And.intro hbw (Nat.le_trans HR.out.2 hbw.size)))
        have HO2 := Lib.hid (HRW.out.1.alloc (.cells #[.pointer none, .slice p2 M c2, .slice none 0 0, .int .i32 0, .int .u8 0, .bool false] 41))
        have HS2 := Lib.hid (own_zero (own_keep HBW.out.2 hal))
        clear hIF HZ hlt hz hal hi hz0 hz1 hz2 hbw
        go_wp2_with (first
          | (refine wpList_load_mid rfl 41 _ rfl b6 0 rfl (cmc (.slice p2 M c2) (.slice none 0 0) 0) dC HBW.out.1.1.1 hC hC2 szCmp ?_)
          | (refine wpl_bs1 rfl 31 (.tmp 202) rfl _ _ _ ?hx (bs_cmp p2 none M c2 0 0 0 wr) ?_; case hx => (show _ = _; rfl))
          | (at_builtin
             refine wpList_append_lies _ rfl (.tmp 201) (.tmp 203) _ rfl B 41 i0 _ 6 72 Tryf.underlying31 HC0.out.1 HC0.out.2.1 HC0.out.2.2.1 HC0.out.2.2.2 rfl (by omega) (.slice ra n rc) n ys ?hs HO2.out ⟨wr.heap.size, 0, none⟩ 1 1 (cmc (.slice p2 M c2) (.slice none 0 0) 0) ?hx (by rfl) (World.news_of_block (heap_alloc_new wr _)) (cmc_one _ _ _ _ _ _ _) (by omega) (by unfold maxLen; omega) (by omega) (by have := HRW.out.2.2; simp; omega) (wr.heap.size + 1) (by simp) ?_; (case hs => exact rfl); (case hx => exact rfl)
             intro g3 cap3 w9 hown9 hgrow9 hat9 hlt9))
        go_ret
        have hgr : w.grownBy w9 (Value.slice ra n rc).ownBlock := ((grown_below HRW.out.2.1 _).trans (grown_alloc wr _ _)).trans hgrow9
        refine ⟨g3, cap3, .slice p2 M c2, rfl, hown9, hgr, ?_, Ps, D, q, ?_, HPS.out.1, fun x hx => ?_, HI.out.grown hgrow9 (fun x hx => ?_)⟩
        · rcases hat9 with h | h
          · exact .inl h
          · right
            have := HRW.out.2.1.size
            omega
        · have h := HS2.out.kept hgrow9 (own_ne HS2.out HO2.out (by decide))
          have hM2 : M = Ps.length + 1 := by have := HMM.out; have := HS11.out; omega
          rw [← hM2]
          exact h
        · have h1 := (HPS.out.2 x hx).1
          exact rg_ag (hgr.block _ (HLN.out.2.2.2.1 _ h1) (HLN.out.2.2.2.2 _ h1)) (HPS.out.2 x hx).2
        · have h1 := (HR.out.1.lt x hx).2
          have := HD6.out.2.2
          omega
    -- part>
end Go.Proofs.YtaiofdgiabmelaaFmt.Sb
