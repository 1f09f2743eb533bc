/-
  Small functions of the flattening.
-/
import Derived.Test.YtbpnmiedomchpaaFk
namespace Go.Proofs.Ytbpnmiedomchpaa.Fg
open Go.ChangeShapes Go.WideShapes Go.ChangeAt Go.RowKit Rg
set_option linter.unusedVariables false
set_option linter.unusedSimpArgs false
theorem tyRng : ∃ d, Try.prog.underlying 64 = some d ∧ d.isRow = true := ⟨_, Try.underlying64, rfl⟩
theorem szRng : (Try.prog.info? 64).map (·.size) = some 2 := by kernel_rfl
theorem tyLoc : ∃ d, Try.prog.underlying 33 = some d ∧ d.isRow = true := ⟨_, Try.underlying33, rfl⟩
theorem szLoc : (Try.prog.info? 33).map (·.size) = some 1 := by kernel_rfl
theorem tyNsn : ∃ d, Try.prog.underlying 70 = some d ∧ d.isRow = true := ⟨_, Try.underlying70, rfl⟩
theorem szNsn : (Try.prog.info? 70).map (·.size) = some 5 := by kernel_rfl
def rg2 (a l : Int) : List Value := [.int .i32 a, .int .i32 l]
theorem rg2_all (a l : Int) : (rg2 a l).toArray.all (·.oneCell') = true := by simp [rg2, Value.oneCell']
/-- a type selector: none or some pointer -/
def Pty (tv : Value) : Prop := tv = .pointer none ∨ ∃ p, tv = .pointer (some ⟨p, 0, none⟩)
theorem Pty.ptr {tv : Value} (h : Pty tv) : ∃ pa, tv = .pointer pa := by
  rcases h with rfl | ⟨p, rfl⟩
  · exact ⟨_, rfl⟩
  · exact ⟨_, rfl⟩
theorem TyV.pty {X : Nat → Prop} {w : World} {v : Value} {t : Option ByteArray} (h : TyV X w v t) : Pty v := by
  cases t with
  | none => exact .inl h
  | some t => obtain ⟨p, rfl, -⟩ := h; exact .inr ⟨p, rfl⟩
set_option maxRecDepth 100000 in
set_option maxHeartbeats 4000000 in
theorem emp_any (tv : Value) (sa la : Option Addr) (sn sc ln lc cb : Nat) (we : Bool) (w : World) (ht : Pty tv) :
    Calls Try.prog 25 #[.agg (Cv.cells ⟨tv, .slice sa sn sc, .slice la ln lc, cb, we⟩).toArray] w (fun e w' => ∃ b, e = .returned (.bool b) ∧ Below w.heap.size w w') := by
  obtain ⟨q1, h1⟩ : ∃ b, ((ln : Int) == 0) = b := ⟨_, rfl⟩
  obtain ⟨q2, h2⟩ : ∃ b, ((sn : Int) == 0) = b := ⟨_, rfl⟩
  go_enter Try.func25, Try.ntmps25
  go_upto_region 1 with fail
  have hb : Below w.heap.size w (w.alloc (.cells (Cv.cells ⟨tv, .slice sa sn sc, .slice la ln lc, cb, we⟩).toArray 37)) := (Below.refl _ _).alloc (Nat.le_refl _) _
  have hr := rg_new w (Cv.cells ⟨tv, .slice sa sn sc, .slice la ln lc, cb, we⟩).toArray 37
  generalize w.alloc _ = w1 at *
  have r0 := hr 0 _ rfl
  have r1 := hr 1 _ rfl
  have r2 := hr 2 _ rfl
  simp only [Nat.zero_add] at r0 r1 r2
  have HB := Lib.hid hb
  clear hb hr
  rcases ht with rfl | ⟨p, rfl⟩
  all_goals
    cases q1 <;> cases q2
    all_goals
      go_wp2_with fail
      go_ret
      exact ⟨_, rfl, HB.out⟩
set_option maxRecDepth 100000 in
set_option maxHeartbeats 4000000 in
theorem end_any (a l : Int) (w : World) :
    Calls Try.prog 39 #[.agg (rg2 a l).toArray] w (fun e w' => (∃ z, e = .returned (.int .i32 z)) ∧ Below w.heap.size w w') := by
  go_enter Try.func39, Try.ntmps39
  go_upto_region 1 with fail
  have hb : Below w.heap.size w (w.alloc (.cells (rg2 a l).toArray 64)) := (Below.refl _ _).alloc (Nat.le_refl _) _
  have hr := rg_new w (rg2 a l).toArray 64
  generalize w.alloc _ = w1 at *
  have r0 := hr 0 _ rfl
  have r1 := hr 1 _ rfl
  simp only [Nat.zero_add] at r0 r1
  have HB := Lib.hid hb
  clear hb hr
  go_wp2_with fail
  go_ret
  exact ⟨⟨_, rfl⟩, HB.out⟩
set_option maxRecDepth 100000 in
set_option maxHeartbeats 4000000 in
theorem nsr_any (t : ByteArray) (w : World) :
    Calls Try.prog 32 #[.agg (nsc t).toArray] w (fun e w' => e = .returned (.agg (rg2 0 0).toArray) ∧ Below w.heap.size w w') := by
  obtain ⟨tR, hR, hR2⟩ := tyRng
  go_enter Try.func32, Try.ntmps32
  go_upto_region 1 with fail
  have h1 : Below w.heap.size w (w.alloc (.cells (nsc t).toArray 70)) := (Below.refl _ _).alloc (Nat.le_refl _) _
  have r1 := rg_new w (nsc t).toArray 70
  have s1 : (w.alloc (.cells (nsc t).toArray 70)).heap.size = w.heap.size + 1 := World.size_alloc _ _
  generalize w.alloc (.cells (nsc t).toArray 70) = x1 at *
  have h2 : Below x1.heap.size x1 (x1.alloc (.cells #[.int .i32 0, .int .i32 0] 64)) := (Below.refl _ _).alloc (Nat.le_refl _) _
  have t2 := th_new x1 #[.int .i32 0, .int .i32 0] 64 (n := 2) rfl
  rw [s1] at t2
  have r2 := rg_keep h2 r1
  have h12 := h1.trans (h2.mono h1.size)
  generalize x1.alloc _ = w2 at *
  obtain ⟨b1, hb1⟩ : ∃ b, b = w.heap.size := ⟨_, rfl⟩
  obtain ⟨b2, hb2⟩ : ∃ b, b = b1 + 1 := ⟨_, rfl⟩
  rw [← hb1] at r2 t2 ⊢
  rw [← hb2] at t2 ⊢
  have e0 := r2 0 _ rfl
  simp only [Nat.zero_add] at e0
  have hrr : w2.rangeAt b1 2 (rg2 0 0) := fun j v hj => by
    have := r2 (2 + j) v
    rw [Nat.zero_add] at this
    match j with
    | 0 => exact this hj
    | 1 => exact this hj
    | j + 2 => cases hj
  have H2 := Lib.hid (And.intro hrr (And.intro t2 (And.intro h12 (show w.heap.size ≤ b2 by omega))))
  have hres := World.rangeAt_setCells_same w2 b2 0 (rg2 0 0) t2
  have hfin : Below w.heap.size w (w2.setCells b2 0 (rg2 0 0)) := below_setCells (by omega) _ _ h12
  have HFIN := Lib.hid hfin
  clear h1 r1 s1 h2 r2 t2 h12 hb1 hb2 hrr hfin
  go_wp2_with (first
    | (refine wpList_load_mid rfl 64 _ rfl b1 2 rfl (rg2 0 0) tR H2.out.1 hR hR2 szRng ?_)
    | (refine wpList_store_mid rfl 64 _ _ rfl b2 0 (rg2 0 0).toArray ?ha ?hv H2.out.2.1 szRng (rg2_all _ _) ?_; (case ha => exact rfl); (case hv => exact rfl); (change wpList _ _ _ _ _ (World.setCells _ b2 0 (rg2 0 0))); generalize World.setCells _ _ _ _ = w9 at *))
  exact bodyPost_ret (results_cell_mid rfl _ _ b2 0 (rg2 0 0) tR rfl hres hR hR2 szRng) rfl ⟨rfl, HFIN.out⟩
/-- what ExpandBy does to the range at b -/
def ExP (b : Nat) (w w' : World) : Prop := (∃ a l, w'.rangeAt b 0 (rg2 a l)) ∧ w'.there b 0 2 ∧ Below b w w'
set_option maxRecDepth 100000 in
set_option maxHeartbeats 8000000 in
theorem exp_any (b : Nat) (a l a3 l3 : Int) (w : World) (hr : w.rangeAt b 0 (rg2 a l)) (ht : w.there b 0 2) :
    Calls Try.prog 33 #[.pointer (some ⟨b, 0, none⟩), .agg (rg2 a3 l3).toArray] w (fun e w' => e = .returned (.tuple #[]) ∧ ExP b w w') := by
  obtain ⟨tR, hR, hR2⟩ := tyRng
  have hbs : b < w.heap.size := th_lt ht (by decide)
  go_enter Try.func33, Try.ntmps33
  go_upto_region 1 with fail
  have hb : Below w.heap.size w (w.alloc (.cells (rg2 a3 l3).toArray 64)) := (Below.refl _ _).alloc (Nat.le_refl _) _
  have hp := rg_new w (rg2 a3 l3).toArray 64
  have hr1 := rg_keep hb hr
  have ht1 := th_keep hb ht
  have hz1 : w.heap.size < (w.alloc (.cells (rg2 a3 l3).toArray 64)).heap.size := by rw [World.size_alloc]; omega
  generalize w.alloc _ = w1 at *
  obtain ⟨b1, hb1⟩ : ∃ b, b = w.heap.size := ⟨_, rfl⟩
  rw [← hb1] at hp hb hz1 ⊢
  have H1 := Lib.hid (And.intro hr1 (And.intro ht1 (And.intro hp (And.intro (hb.mono (show b ≤ b1 by omega)) (show b < b1 by omega)))))
  have r1 := hr1 1 _ rfl
  simp only [Nat.zero_add] at r1
  obtain ⟨q, hq⟩ : ∃ q, (l == 0) = q := ⟨_, rfl⟩
  have hone := rg2_all a3 l3
  clear hr ht hb hp hr1 ht1 hbs hb1 hz1
  cases q with
  | true =>
    as_aux_lemma =>
    have hfin : ExP b w (w1.setCells b 0 (rg2 a3 l3)) := ⟨⟨a3, l3, World.rangeAt_setCells_same w1 b 0 (rg2 a3 l3) H1.out.2.1⟩, World.there_setCells H1.out.2.1 b 0 _, below_setCells (Nat.le_refl _) _ _ H1.out.2.2.2.1⟩
    have HFIN := Lib.hid hfin
    clear hfin
    go_wp2_with (first
      | (refine wpList_load_mid rfl 64 _ rfl b1 0 rfl (rg2 a3 l3) tR H1.out.2.2.1 hR hR2 szRng ?_)
      | (refine wpList_store_mid rfl 64 _ _ rfl b 0 (rg2 a3 l3).toArray ?ha ?hv H1.out.2.1 szRng hone ?_; (case ha => exact rfl); (case hv => exact rfl); (change wpList _ _ _ _ _ (World.setCells _ b 0 (rg2 a3 l3))); generalize World.setCells _ _ _ _ = w9 at *))
    (try simp only [Exit.inBlock, Exit.then])
    exact bodyPost_end (results_none rfl _ _ _) rfl ⟨rfl, HFIN.out⟩
  | false =>
    as_aux_lemma =>
    go_upto_region 3 with fail
    clear r1
    go_wp2_with (refine wpList_load_mid rfl 64 _ rfl b 0 rfl (rg2 a l) tR H1.out.1 hR hR2 szRng ?_)
    refine (end_any a l w1).mono ?_
    rintro e w2 ⟨⟨z1, rfl⟩, hb2⟩
    have H2 := Lib.hid (And.intro (rg_keep hb2 H1.out.1) (And.intro (th_keep hb2 H1.out.2.1) (And.intro (rg_keep hb2 H1.out.2.2.1) (And.intro (H1.out.2.2.2.1.trans (hb2.mono (Nat.le_of_lt (th_lt H1.out.2.1 (by decide))))) (show b < b1 from H1.out.2.2.2.2)))))
    clear hb2
    go_wp2_with (refine wpList_load_mid rfl 64 _ rfl b1 0 rfl (rg2 a3 l3) tR H2.out.2.2.1 hR hR2 szRng ?_)
    refine (end_any a3 l3 w2).mono ?_
    rintro e w3 ⟨⟨z2, rfl⟩, hb3⟩
    have hbw : b < w2.heap.size := th_lt H2.out.2.1 (by decide)
    have H3 := Lib.hid (And.intro (rg_keep hb3 H2.out.1) (And.intro (th_keep hb3 H2.out.2.1) (And.intro (rg_keep hb3 H2.out.2.2.1) (And.intro (H2.out.2.2.2.1.trans (hb3.mono (Nat.le_of_lt hbw))) (show b < b1 from H2.out.2.2.2.2)))))
    clear hb3 hbw H1 H2 w1 w2
    go_upto_if 22 with fail
    go_cut [4] (fun v wx => (∃ z, v = .int .i32 z) ∧ wx = w3)
    case first =>
      by_cases hc : z2 > z1
      all_goals
        as_aux_lemma =>
        go_wp2_with fail
        go_meet
        exact ⟨⟨_, rfl⟩, rfl⟩
    case rest =>
    obtain ⟨⟨z4, rfl⟩, rfl⟩ := hcut
    as_aux_lemma =>
    have HD : Below wc.heap.size wc wc.drew := (Below.refl _ _).drew
    have k0 := H3.out.1 0 _ rfl
    have k1 := H3.out.2.2.1 0 _ rfl
    simp only [Nat.zero_add] at k0 k1
    have HS0 := Lib.hid (And.intro (later HD k1) (later HD k0))
    have hbw : b < wc.heap.size := th_lt H3.out.2.1 (by decide)
    have H4 := Lib.hid (And.intro (rg_keep HD H3.out.1) (And.intro (th_keep HD H3.out.2.1) (H3.out.2.2.2.1.trans (HD.mono (Nat.le_of_lt hbw)))))
    clear k0 k1 HD H3 hbw
    go_upto_region 7 with fail
    refine Pl.wp_region_split (fun w' => w'.cell? ⟨b1, 0, none⟩ = some (.int .i32 a3) ∧ w'.cell? ⟨b, 0, none⟩ = some (.int .i32 a)) 8 (by kernel_rfl) (by kernel_rfl) ?_
    simp only [List.take_succ_cons, List.take_zero]
    have hHeld := HS0.out
    refine Pl.take_l (i := 0) (v := ?v1) rfl (by kernel_rfl) (by kernel_rfl) (by kernel_rfl) (fun _ _ _ h => h) rfl ?hy1 hHeld ?rest1
    case hy1 => (intro w hSw; (try dsimp only at hSw); (try obtain ⟨_, _⟩ := hSw); go_simp <;> (try with_reducible rfl))
    try simp only [Act.put, List.setIfInBounds_toArray, List.set_cons_zero, List.set_cons_succ]
    refine Pl.take_l (i := 1) (v := ?v2) rfl (by kernel_rfl) (by kernel_rfl) (by kernel_rfl) (fun _ _ _ h => h) rfl ?hy2 hHeld ?rest2
    case hy2 => (intro w hSw; (try dsimp only at hSw); (try obtain ⟨_, _⟩ := hSw); go_simp <;> (try with_reducible rfl))
    try simp only [Act.put, List.setIfInBounds_toArray, List.set_cons_zero, List.set_cons_succ]
    refine Pl.take_l (i := 2) (v := ?v3) rfl (by kernel_rfl) (by kernel_rfl) (by kernel_rfl) (fun _ _ _ h => h) rfl ?hy3 hHeld ?rest3
    case hy3 => (intro w hSw; (try dsimp only at hSw); (try obtain ⟨_, _⟩ := hSw); go_simp <;> (try with_reducible rfl))
    try simp only [Act.put, List.setIfInBounds_toArray, List.set_cons_zero, List.set_cons_succ]
    refine Pl.take_l (i := 3) (v := ?v4) rfl (by kernel_rfl) (by kernel_rfl) (by kernel_rfl) (fun _ _ _ h => h) rfl ?hy4 hHeld ?rest4
    case hy4 => (intro w hSw; (try dsimp only at hSw); (try obtain ⟨_, _⟩ := hSw); go_simp <;> (try with_reducible rfl))
    try simp only [Act.put, List.setIfInBounds_toArray, List.set_cons_zero, List.set_cons_succ]
    refine Pl.take_l (i := 4) (v := ?v5) rfl (by kernel_rfl) (by kernel_rfl) (by kernel_rfl) (fun _ _ _ h => h) rfl ?hy5 hHeld ?rest5
    case hy5 => (intro w hSw; (try dsimp only at hSw); (try obtain ⟨_, _⟩ := hSw); go_simp <;> (try with_reducible rfl))
    try simp only [Act.put, List.setIfInBounds_toArray, List.set_cons_zero, List.set_cons_succ]
    refine Pl.take_l (i := 5) (v := ?v6) rfl (by kernel_rfl) (by kernel_rfl) (by kernel_rfl) (fun _ _ _ h => h) rfl ?hy6 hHeld ?rest6
    case hy6 => (intro w hSw; (try dsimp only at hSw); (try obtain ⟨_, _⟩ := hSw); go_simp <;> (try with_reducible rfl))
    try simp only [Act.put, List.setIfInBounds_toArray, List.set_cons_zero, List.set_cons_succ]
    refine Pl.take_l (i := 6) (v := ?v7) rfl (by kernel_rfl) (by kernel_rfl) (by kernel_rfl) (fun _ _ _ h => h) rfl ?hy7 hHeld ?rest7
    case hy7 => (intro w hSw; (try dsimp only at hSw); (try obtain ⟨_, _⟩ := hSw); go_simp <;> (try with_reducible rfl))
    try simp only [Act.put, List.setIfInBounds_toArray, List.set_cons_zero, List.set_cons_succ]
    refine Pl.take_l (i := 7) (v := ?v8) rfl (by kernel_rfl) (by kernel_rfl) (by kernel_rfl) (fun _ _ _ h => h) rfl ?hy8 hHeld ?rest8
    case hy8 => (intro w hSw; (try dsimp only at hSw); (try obtain ⟨_, _⟩ := hSw); go_simp <;> (try with_reducible rfl))
    try simp only [Act.put, List.setIfInBounds_toArray, List.set_cons_zero, List.set_cons_succ]
    refine wpAnyH_done (by kernel_rfl) ?_ _
    refine Pl.behind_normal (by decide) ?_
    simp only [List.drop_succ_cons, List.drop_zero]
    clear hHeld
    generalize World.drew _ = wd at *
    have s1 := HS0.out.1
    have s2 := HS0.out.2
    have z0 := (H4.out.2.1 0 (by decide)).2
    have z1 := (H4.out.2.1 1 (by decide)).2
    have c1 := H4.out.1 1 _ rfl
    simp only [Nat.zero_add] at z0 z1 c1
    by_cases hd : a3 < a
    · as_aux_lemma =>
      go_wp2_with fail
      (try simp only [Exit.inBlock, Exit.then])
      refine bodyPost_end (results_none rfl _ _ _) rfl ⟨rfl, ⟨_, _, rg_set (k := 1) (n := 2) (rg_set (k := 0) (n := 2) H4.out.1 (show 0 < 2 by decide)) (show 1 < 2 by decide)⟩, th_set (th_set H4.out.2.1), (H4.out.2.2.setCell (Nat.le_refl _) _).setCell (Nat.le_refl _) _⟩
    · as_aux_lemma =>
      go_wp2_with fail
      (try simp only [Exit.inBlock, Exit.then])
      refine bodyPost_end (results_none rfl _ _ _) rfl ⟨rfl, ⟨_, _, rg_set (k := 1) (n := 2) H4.out.1 (show 1 < 2 by decide)⟩, th_set H4.out.2.1, H4.out.2.2.setCell (Nat.le_refl _) _⟩
/-- the range under construction at b2, the compound's box at b1 -/
structure Cr (b1 b2 : Nat) (cs : List Value) (w0 w : World) : Prop where
  rg : ∃ a l, w.rangeAt b2 0 (rg2 a l)
  th : w.there b2 0 2
  bx : w.rangeAt b1 0 cs
  bel : Below b1 w0 w
  lt : b1 < b2
theorem Cr.bs {b1 b2 : Nat} {cs : List Value} {w0 w : World} (h : Cr b1 b2 cs w0 w) : b2 < w.heap.size := th_lt h.th (by decide)
theorem Cr.keep {b1 b2 : Nat} {cs : List Value} {w0 w w' : World} (h : Cr b1 b2 cs w0 w) (hb : Below w.heap.size w w') : Cr b1 b2 cs w0 w' := by
  obtain ⟨⟨a, l, h1⟩, h2, h3, h4, h5⟩ := h
  have hbs : b2 < w.heap.size := th_lt h2 (by decide)
  exact ⟨⟨a, l, rg_keep hb h1⟩, th_keep hb h2, rg_keep hb h3, h4.trans (hb.mono (by omega)), h5⟩
theorem Cr.ex {b1 b2 : Nat} {cs : List Value} {w0 w w' : World} (h : Cr b1 b2 cs w0 w) (hb : ExP b2 w w') : Cr b1 b2 cs w0 w' :=
  ⟨hb.1, hb.2.1, rg_below hb.2.2 h.lt h.bx, h.bel.trans (hb.2.2.mono (Nat.le_of_lt h.lt)), h.lt⟩
theorem Cr.set {b1 b2 : Nat} {cs : List Value} {w0 w : World} (h : Cr b1 b2 cs w0 w) (a l : Int) : Cr b1 b2 cs w0 (w.setCells b2 0 (rg2 a l)) :=
  ⟨⟨a, l, World.rangeAt_setCells_same w b2 0 (rg2 a l) h.th⟩, World.there_setCells h.th b2 0 _, rg_ag (hso b2 _ 0 w (by have := h.lt; omega)) h.bx, below_setCells (Nat.le_of_lt h.lt) _ _ h.bel, h.lt⟩
set_option maxRecDepth 100000 in
set_option maxHeartbeats 16000000 in
theorem csr_any {σ : Type} (e : El σ) (X : Nat → Prop) (pa : Option Addr) (sa la : Option Addr) (sn sc ln lc cb : Nat) (we : Bool) (c : Cp σ) (w : World) (hX : ∀ b, X b → b < w.heap.size)
    (h : CpV e X w ⟨.pointer pa, .slice sa sn sc, .slice la ln lc, cb, we⟩ c) (hs4 : sn ≤ 4398046511104) (hl4 : ln ≤ 4398046511104) (hone : ∀ x a, e X w x a → x.oneCell' = true) :
    Calls Try.prog 26 #[.agg (Cv.cells ⟨.pointer pa, .slice sa sn sc, .slice la ln lc, cb, we⟩).toArray] w (fun e w' => (∃ a l, e = .returned (.agg (rg2 a l).toArray)) ∧ Below w.heap.size w w') := by
  obtain ⟨tR, hR, hR2⟩ := tyRng
  obtain ⟨tL, hL, hL2⟩ := tyLoc
  obtain ⟨tN, hN, hN2⟩ := tyNsn
  obtain ⟨tS, hS, hS2⟩ := tySub
  have hcb : cb < 256 := by have := h.2.2.2.1; have := h.2.2.2.2.2; dsimp only at *; omega
  have hty := h.1
  obtain ⟨ot, hot⟩ : ∃ t, t = c.tp := ⟨_, rfl⟩
  rw [← hot] at hty
  have HO := Lib.hid (And.intro h (And.intro hX hone))
  clear h hX hone hot
  go_enter Try.func26, Try.ntmps26
  go_upto_region 1 with fail
  have h1 : Below w.heap.size w (w.alloc (.cells (Cv.cells ⟨.pointer pa, .slice sa sn sc, .slice la ln lc, cb, we⟩).toArray 37)) := (Below.refl _ _).alloc (Nat.le_refl _) _
  have r1 := rg_new w (Cv.cells ⟨.pointer pa, .slice sa sn sc, .slice la ln lc, cb, we⟩).toArray 37
  have s1 : (w.alloc (.cells (Cv.cells ⟨.pointer pa, .slice sa sn sc, .slice la ln lc, cb, we⟩).toArray 37)).heap.size = w.heap.size + 1 := World.size_alloc _ _
  generalize w.alloc (.cells (Cv.cells ⟨.pointer pa, .slice sa sn sc, .slice la ln lc, cb, we⟩).toArray 37) = x1 at *
  have h2 : Below x1.heap.size x1 (x1.alloc (.cells #[.int .i32 0, .int .i32 0] 64)) := (Below.refl _ _).alloc (Nat.le_refl _) _
  have t2 := th_new x1 #[.int .i32 0, .int .i32 0] 64 (n := 2) rfl
  have g2 : (x1.alloc (.cells #[.int .i32 0, .int .i32 0] 64)).rangeAt x1.heap.size 0 (rg2 0 0) := rg_new x1 #[.int .i32 0, .int .i32 0] 64
  rw [s1] at t2 g2
  have r2 := rg_keep h2 r1
  have h12 := h1.trans (h2.mono h1.size)
  generalize x1.alloc _ = w2 at *
  obtain ⟨b1, hb1⟩ : ∃ b, b = w.heap.size := ⟨_, rfl⟩
  obtain ⟨b2, hb2⟩ : ∃ b, b = b1 + 1 := ⟨_, rfl⟩
  rw [← hb1] at r2 t2 g2 h12 ⊢
  rw [← hb2] at t2 g2 ⊢
  have HC := Lib.hid (Cr.mk ⟨0, 0, g2⟩ t2 r2 h12 (by omega))
  have HBB := Lib.hid hb1
  clear h1 r1 s1 h2 r2 t2 h12 hb1 hb2 g2
  have e4 := HC.out.bx 4 _ rfl
  simp only [Nat.zero_add] at e4
  obtain ⟨q1, hq1⟩ : ∃ q, ((cb : Int) == 0) = q := ⟨_, rfl⟩
  go_upto_if 10 with fail
  go_cut [] (fun wx => Hid (Cr b1 b2 (Cv.cells ⟨.pointer pa, .slice sa sn sc, .slice la ln lc, cb, we⟩) w wx))
  case first =>
    cases q1 with
    | true =>
      as_aux_lemma =>
      go_wp2_with fail
      go_meet
      exact HC
    | false =>
      as_aux_lemma =>
      have hrr : w2.rangeAt b1 3 [.int .i32 0] := fun j v hj => by
        have := HC.out.bx (3 + j) v
        rw [Nat.zero_add] at this
        match j with
        | 0 => exact this hj
        | j + 1 => cases hj
      have HRR := Lib.hid hrr
      have HFIN := Lib.hid (HC.out.set 0 1)
      have HTH := Lib.hid HC.out.th
      clear hrr
      go_wp2_with (first
        | (refine wpList_load_mid rfl 33 _ rfl b1 3 rfl [.int .i32 0] tL HRR.out hL hL2 szLoc ?_)
        | (refine wpList_store_mid rfl 64 _ _ rfl b2 0 (rg2 0 1).toArray ?ha ?hv HTH.out szRng (rg2_all _ _) ?_; (case ha => exact rfl); (case hv => exact rfl); (change wpList _ _ _ _ _ (World.setCells _ b2 0 (rg2 0 1))); generalize World.setCells _ _ _ _ = w9 at *))
      go_meet
      exact HFIN
  case rest =>
  clear e4 hq1 HC
  obtain ⟨wd, hwd⟩ : ∃ x, x = wc := ⟨_, rfl⟩
  subst hwd
  as_aux_lemma =>
  have HC := hcut
  clear hcut
  have e0 := HC.out.bx 0 _ rfl
  simp only [Nat.zero_add] at e0
  go_upto_if 17 with fail
  go_cut [] (fun wx => Hid (Cr b1 b2 (Cv.cells ⟨.pointer pa, .slice sa sn sc, .slice la ln lc, cb, we⟩) w wx))
  case first =>
    cases ot with
    | none =>
      as_aux_lemma =>
      obtain rfl : pa = none := by injection hty
      go_wp2_with fail
      go_meet
      exact HC
    | some t =>
      as_aux_lemma =>
      obtain ⟨p, hp1, hp2, hp3⟩ := hty
      obtain rfl : pa = some ⟨p, 0, none⟩ := by injection hp1
      clear hp1
      have HP := Lib.hid (rg_below HC.out.bel (by rw [HBB.out]; exact HO.out.2.1 _ hp2) hp3)
      clear hp2 hp3
      go_wp2_with (refine wpList_load_mid rfl 70 _ rfl p 0 rfl (nsc t) tN HP.out hN hN2 szNsn ?_)
      refine (nsr_any t _).mono ?_
      rintro e w5 ⟨rfl, hb5⟩
      have HC5 := Lib.hid (HC.out.keep hb5)
      clear hb5
      go_wp2_with fail
      obtain ⟨a0, l0, hrg⟩ := HC5.out.rg
      refine (exp_any b2 a0 l0 0 0 w5 hrg HC5.out.th).mono ?_
      rintro e w6 ⟨rfl, hex⟩
      have HC6 := Lib.hid (HC5.out.ex hex)
      clear hex hrg HC5
      go_wp2_with fail
      go_meet
      exact HC6
  case rest =>
  clear e0 HC
  obtain ⟨we2, hwd⟩ : ∃ x, x = wc := ⟨_, rfl⟩
  subst hwd
  as_aux_lemma =>
  have HC := hcut
  clear hcut
  have e2 := HC.out.bx 2 _ rfl
  simp only [Nat.zero_add] at e2
  go_upto_block 0 with fail
  clear e2
  refine wp_block ?_
  go_loopw [27] (fun i wr => ∃ (k : Nat), k ≤ ln ∧ i = .int .i64 k ∧ Hid (Cr b1 b2 (Cv.cells ⟨.pointer pa, .slice sa sn sc, .slice la ln lc, cb, we⟩) w wr)) (fun i _ => ln - (intOf i).toNat)
  case atStart => exact ⟨0, Nat.zero_le _, rfl, HC⟩
  case round =>
    clear HC
    obtain ⟨k, hk, rfl, HC⟩ := hrel
    by_cases hlt : k < ln
    · as_aux_lemma =>
      have q0 : (0 : Int) ≤ k := by omega
      have q1 : (k : Int) < ln := by omega
      have hlc := HO.out.1.2.2.1
      obtain ⟨la', lc', hle, hlv⟩ := hlc
      simp only [Value.slice.injEq] at hle
      obtain ⟨rfl, hne, rfl⟩ := hle
      obtain ⟨g, o, z, hge, hXg, hcell⟩ := hlv k (by omega)
      subst hge
      have hrr : wr.rangeAt g (o + k) [.int .i32 z] := fun j v hj => by
        match j with
        | 0 => exact (World.cell?_of_block (HC.out.bel.block g (by rw [HBB.out]; exact HO.out.2.1 g hXg))).trans (hcell.trans hj)
        | j + 1 => cases hj
      have HRR := Lib.hid hrr
      clear hrr hlv hcell hXg hne
      go_upto_region 8 with (first
        | (refine wpList_load_mid rfl 33 _ rfl g (o + k) ?hpa [.int .i32 z] tL HRR.out hL hL2 szLoc ?_; (case hpa => first | rfl | simp))
        | (refine wpList_store_mid rfl 33 _ _ rfl wr.heap.size 0 #[.int .i32 z] rfl rfl (th_new wr _ _ rfl) szLoc (by simp [Value.oneCell']) ?_))
      have hbS : Below wr.heap.size wr ((wr.alloc (.cells #[.int .i32 0] 33)).setCells wr.heap.size 0 [.int .i32 z]) := below_setCells (Nat.le_refl _) _ _ ((Below.refl _ _).alloc (Nat.le_refl _) _)
      have hrS : ((wr.alloc (.cells #[.int .i32 0] 33)).setCells wr.heap.size 0 [.int .i32 z]).rangeAt wr.heap.size 0 [.int .i32 z] := World.rangeAt_setCells_same _ _ _ _ (th_new wr _ _ rfl)
      generalize World.setCells _ _ _ _ = w5 at *
      have HC5 := Lib.hid (HC.out.keep hbS)
      obtain ⟨b5, hb5⟩ : ∃ b, b = wr.heap.size := ⟨_, rfl⟩
      rw [← hb5] at hrS ⊢
      have HRS := Lib.hid hrS
      clear hbS HRR HC hb5 hrS
      clear wr
      as_aux_lemma =>
      go_wp2_with (refine wpList_load_mid rfl 33 _ rfl b5 0 rfl [.int .i32 z] tL HRS.out hL hL2 szLoc ?_)
      obtain ⟨a0, l0, hrg⟩ := HC5.out.rg
      refine (exp_any b2 a0 l0 z 1 w5 hrg HC5.out.th).mono ?_
      rintro e w6 ⟨rfl, hex⟩
      have HC6 := Lib.hid (HC5.out.ex hex)
      clear hex hrg HC5
      go_wp2_with fail
      exact ⟨⟨k + 1, by omega, by go_num, HC6⟩, by simp [intOf]; omega⟩
    · as_aux_lemma =>
      obtain rfl : k = ln := by omega
      obtain ⟨wq, hwq⟩ : ∃ x, x = wr := ⟨_, rfl⟩
      subst hwq
      have e1 := HC.out.bx 1 _ rfl
      simp only [Nat.zero_add] at e1
      by_cases h0 : sn = 0
      · as_aux_lemma =>
        have h0 : ¬ (0 : Int) < (sn : Int) := by omega
        have HRE := Lib.hid HC.out.rg
        have HFIN := Lib.hid (HBB.out ▸ HC.out.bel)
        obtain ⟨a0, l0, hrg⟩ := HRE.out
        go_wp2_with fail
        exact bodyPost_ret (results_cell_mid rfl _ _ b2 0 (rg2 a0 l0) tR rfl hrg hR hR2 szRng) rfl ⟨⟨_, _, rfl⟩, HFIN.out⟩
      · as_aux_lemma =>
        have h0 : (0 : Int) < (sn : Int) := by omega
        go_upto_block 2 with fail
        clear e1
        (try rw [show decide ((0 : Int) < (sn : Int)) = true from decide_eq_true h0])
        (try rw [show decide (0 < sn) = true from decide_eq_true (by omega)])
        refine wp_block ?_
        go_loopw [42] (fun i wr => ∃ (j : Nat), j ≤ sn ∧ i = .int .i64 j ∧ Hid (Cr b1 b2 (Cv.cells ⟨.pointer pa, .slice sa sn sc, .slice la k lc, cb, we⟩) w wr)) (fun i _ => sn - (intOf i).toNat)
        case atStart => exact ⟨0, Nat.zero_le _, rfl, HC⟩
        case round =>
          clear HC
          obtain ⟨j, hj, rfl, HC⟩ := hrel
          by_cases hltj : j < sn
          · as_aux_lemma =>
            have z0 : (0 : Int) ≤ j := by omega
            have z1 : (j : Int) < sn := by omega
            have hrw := HO.out.1.2.1
            obtain ⟨a', c', hle, hlv⟩ := hrw
            simp only [Value.slice.injEq] at hle
            obtain ⟨rfl, hne, rfl⟩ := hle
            obtain ⟨g, o, x, hge, hXg, hr, hel⟩ := hlv j (by omega)
            subst hge
            have hox := HO.out.2.2 _ _ hel
            have hrr := rg_below HC.out.bel (by rw [HBB.out]; exact HO.out.2.1 g hXg) hr
            have HRR := Lib.hid hrr
            clear hrr hlv hXg hne hel hr
            go_upto_region 14 with (first
              | (refine wpList_load_mid rfl 119 _ rfl g (o + j * 3) rfl (sbc x) tS HRR.out hS hS2 szSub ?_)
              | (refine wpList_store_mid rfl 119 _ _ rfl wr.heap.size 0 (sbc x).toArray rfl rfl (th_new wr _ _ rfl) szSub (sub_all _ hox) ?_))
            have hbS : Below wr.heap.size wr ((wr.alloc (.cells #[.nilIface, .int .i32 0, .int .i32 0] 119)).setCells wr.heap.size 0 (sbc x)) := below_setCells (Nat.le_refl _) _ _ ((Below.refl _ _).alloc (Nat.le_refl _) _)
            have hrS : ((wr.alloc (.cells #[.nilIface, .int .i32 0, .int .i32 0] 119)).setCells wr.heap.size 0 (sbc x)).rangeAt wr.heap.size 0 (sbc x) := World.rangeAt_setCells_same _ _ _ _ (th_new wr _ _ rfl)
            generalize World.setCells _ _ _ _ = w5 at *
            have HC5 := Lib.hid (HC.out.keep hbS)
            obtain ⟨b5, hb5⟩ : ∃ b, b = wr.heap.size := ⟨_, rfl⟩
            rw [← hb5] at hrS ⊢
            have hr2 : w5.rangeAt b5 1 (rg2 0 0) := fun i v hi => by
              have := hrS (1 + i) v
              rw [Nat.zero_add] at this
              match i with
              | 0 => exact this hi
              | 1 => exact this hi
              | i + 2 => cases hi
            have HRS := Lib.hid hr2
            clear hbS HRR HC hb5 hrS hr2
            clear wr
            as_aux_lemma =>
            go_wp2_with (refine wpList_load_mid rfl 64 _ rfl b5 1 rfl (rg2 0 0) tR HRS.out hR hR2 szRng ?_)
            obtain ⟨a0, l0, hrg⟩ := HC5.out.rg
            refine (exp_any b2 a0 l0 0 0 w5 hrg HC5.out.th).mono ?_
            rintro e w6 ⟨rfl, hex⟩
            have HC6 := Lib.hid (HC5.out.ex hex)
            clear hex hrg HC5
            go_wp2_with fail
            exact ⟨⟨j + 1, by omega, by go_num, HC6⟩, by simp [intOf]; omega⟩
          · as_aux_lemma =>
            obtain rfl : j = sn := by omega
            have HRE := Lib.hid HC.out.rg
            have HFIN := Lib.hid (HBB.out ▸ HC.out.bel)
            obtain ⟨a0, l0, hrg⟩ := HRE.out
            go_wp2_with fail
            exact bodyPost_ret (results_cell_mid rfl _ _ b2 0 (rg2 a0 l0) tR rfl hrg hR hR2 szRng) rfl ⟨⟨_, _, rfl⟩, HFIN.out⟩
set_option maxRecDepth 100000 in
set_option maxHeartbeats 4000000 in
theorem zco_any (X : Nat → Prop) (v : Value) (M : List (Cp Su)) (w : World) (hX : ∀ b, X b → b < w.heap.size) (h : CxV e1 X w v M) (hbd : Bd M) :
    Calls Try.prog 15 #[.agg #[v]] w (fun e w' => e = .returned (.bool (lgM M)) ∧ Below w.heap.size w w') := by
  obtain ⟨pa, pc, hv⟩ := RW.slice h
  obtain ⟨n, hn⟩ : ∃ n, n = M.length := ⟨_, rfl⟩
  rw [← hn] at hv
  subst hv
  have HO := Lib.hid (And.intro h (And.intro hX hbd))
  clear h hX hbd hn
  go_enter Try.func15, Try.ntmps15
  go_upto_region 1 with fail
  have hb1 : Below w.heap.size w (w.alloc (.cells #[.slice pa n pc] 40)) := (Below.refl _ _).alloc (Nat.le_refl _) _
  have hr1 := rg_new w #[.slice pa n pc] 40 0 _ rfl
  simp only [Nat.add_zero] at hr1
  generalize w.alloc _ = w1 at *
  have HST := Lib.hid hb1
  clear hb1
  go_wp2_with fail
  refine (con_any X (.slice pa n pc) M w1 (fun b hb => Nat.lt_of_lt_of_le (HO.out.2.1 b hb) HST.out.size) (CxV.to loc1 HO.out.1 (To.below HO.out.2.1 HST.out)) HO.out.2.2).mono ?_
  rintro e w2 ⟨rfl, hb2⟩
  have HB := Lib.hid (HST.out.trans (hb2.mono HST.out.size))
  clear hb2 hr1
  go_wp2_with fail
  go_ret
  exact ⟨rfl, HB.out⟩
end Go.Proofs.Ytbpnmiedomchpaa.Fg
