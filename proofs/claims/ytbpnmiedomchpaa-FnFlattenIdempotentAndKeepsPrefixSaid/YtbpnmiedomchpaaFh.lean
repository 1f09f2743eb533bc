/-
  The builder of one subclass selector.
-/
import Derived.Test.YtbpnmiedomchpaaFg
namespace Go.Proofs.Ytbpnmiedomchpaa.Fg
open Go.ChangeShapes Go.WideShapes Go.ChangeAt Go.RowKit Rg
set_option linter.unusedVariables false
set_option linter.unusedSimpArgs false
theorem hso (b : Nat) : ∀ (vs : List Value) (o : Nat) (w : World) {k : Nat}, k ≠ b → (w.setCells b o vs).heap[k]? = w.heap[k]?
  | [], _, _, _, _ => rfl
  | v :: r, o, w, k, h => by rw [World.setCells, hso b r (o + 1) _ h]; exact Below.heap_setCell w _ _ k h
/-- a subclass selector as built: all its blocks lie in [lo, hi) -/
def S1 (lo hi : Nat) (w : World) (x : Value) (c : Su) : Prop := match c with
  | .bare n => ∃ p, x = ifP p ∧ lo ≤ p ∧ p < hi ∧ w.rangeAt p 0 (pcl n)
  | .wrap k M => ∃ p v M0 h2, M = [M0] ∧ x = ifL p ∧ lo ≤ h2 ∧ h2 ≤ p ∧ p < hi ∧ w.rangeAt p 0 (ilc v k) ∧ k < 256 ∧ Wr lo h2 w v M0
theorem Ins.to {lo hi : Nat} {v : Value} {M : List (Cp ByteArray)} {ys : List Ib} {w w' : World} (h : Ins lo v M ys w) (hb : ∀ b, lo ≤ b → b < hi → w'.heap[b]? = w.heap[b]?) (hs : w.heap.size ≤ w'.heap.size) (h1 : ∀ y ∈ ys, y.hi ≤ hi) (h2 : ∀ b, v.ownBlock = some b → b < hi) : Ins lo v M ys w' := by
  obtain ⟨a1, a2, a3, a4, a5⟩ := h
  exact ⟨a1, own_ag a2 (fun g hg => hb g (a2.lt g hg).1 (h2 g hg)), a3, a4, fun i p q => (a5 i p q).to (fun b hin => hb b (Nat.le_trans (a4 _ (List.getElem_mem p)).1 hin.1) (Nat.lt_of_lt_of_le hin.2 (h1 _ (List.getElem_mem p)))) hs⟩
theorem Wr.to {lo hi : Nat} {w w' : World} {v : Value} {M : List (Cp ByteArray)} (h : Wr lo hi w v M) (hb : ∀ b, lo ≤ b → b < hi → w'.heap[b]? = w.heap[b]?) (hs : w.heap.size ≤ w'.heap.size) : Wr lo hi w' v M := by
  obtain ⟨q, u, ys, h1, h2, h3, h4, h5, h6, h7, h8⟩ := h
  exact ⟨q, u, ys, h1, h2, h3, rg_ag (hb q h2 h3) h4, h5.to hb hs (fun y hy => Nat.le_trans (h6 y hy) (Nat.le_of_lt h3)) (fun b hb' => Nat.lt_trans (h7 b hb') h3), h6, h7, Nat.le_trans h8 hs⟩
theorem S1.to {lo hi : Nat} {w w' : World} {x : Value} {c : Su} (h : S1 lo hi w x c) (hb : ∀ b, lo ≤ b → b < hi → w'.heap[b]? = w.heap[b]?) (hs : w.heap.size ≤ w'.heap.size) : S1 lo hi w' x c := by
  cases c with
  | bare n =>
    obtain ⟨p, h1, h2, h3, h4⟩ := h
    exact ⟨p, h1, h2, h3, rg_ag (hb p h2 h3) h4⟩
  | wrap k M =>
    obtain ⟨p, v, M0, h2, a1, a2, a3, a4, a5, a6, a7, a8⟩ := h
    exact ⟨p, v, M0, h2, a1, a2, a3, a4, a5, rg_ag (hb p (by omega) a5) a6, a7, a8.to (fun b p1 p2 => hb b p1 (by omega)) hs⟩
theorem Ins.down {lo lo' : Nat} {v : Value} {M : List (Cp ByteArray)} {ys : List Ib} {w : World} (h : Ins lo v M ys w) (hl : lo' ≤ lo) : Ins lo' v M ys w := ⟨h.1, own_mono h.2.1 hl, h.2.2.1, fun y hy => ⟨Nat.le_trans hl (h.2.2.2.1 y hy).1, (h.2.2.2.1 y hy).2⟩, h.2.2.2.2⟩
theorem Wr.down {lo lo' hi : Nat} {w : World} {v : Value} {M : List (Cp ByteArray)} (h : Wr lo hi w v M) (hl : lo' ≤ lo) : Wr lo' hi w v M := by
  obtain ⟨q, u, ys, h1, h2, h3, h4, h5, h6, h7, h8⟩ := h
  exact ⟨q, u, ys, h1, Nat.le_trans hl h2, h3, h4, h5.down hl, h6, h7, h8⟩
theorem Wr.le {lo hi : Nat} {w : World} {v : Value} {M : List (Cp ByteArray)} (h : Wr lo hi w v M) : lo ≤ hi := by
  obtain ⟨q, u, ys, h1, h2, h3, -⟩ := h
  omega
def BsP (s : Sj) (w : World) (e : Ending) (w' : World) : Prop :=
  ∃ x, e = .returned (.agg #[x, .int .i32 0, .int .i32 0]) ∧ S1 w.heap.size w'.heap.size w' x (bSj s) ∧ Below w.heap.size w w' ∧ x.oneCell' = true ∧ w.heap.size ≤ w'.heap.size
set_option maxRecDepth 100000 in
set_option maxHeartbeats 4000000 in
theorem bsu_any (X : Nat → Prop) (s : Sj) (a : Option Addr) (n c : Nat) (w : World) (hkd : s.kd < 256) (hn : n = s.I.length) (hv : InV X w (.slice a n c) s.I) (hX : ∀ b, X b → b < w.heap.size) (hl : wI s.I ≤ 1048576) :
    Calls Try.prog 21 #[.agg (sj4 s.wr s.kd s.nm a n c).toArray] w (BsP s w) := by
  obtain ⟨wb, kd, nm, I⟩ := s
  dsimp only at hkd hn hv hl ⊢
  have HI := Lib.hid (And.intro hv (And.intro hX hl))
  obtain ⟨tS, hS, hS2⟩ := tySub
  clear hv hX hl hn
  go_enter Try.func21, Try.ntmps21
  go_upto_region 1 with fail
  have h1 : Below w.heap.size w (w.alloc (.cells (sj4 wb kd nm a n c).toArray 58)) := (Below.refl _ _).alloc (Nat.le_refl _) _
  have r1 := rg_new w (sj4 wb kd nm a n c).toArray 58
  have s1 : (w.alloc (.cells (sj4 wb kd nm a n c).toArray 58)).heap.size = w.heap.size + 1 := World.size_alloc _ _
  generalize w.alloc (.cells (sj4 wb kd nm a n c).toArray 58) = x1 at *
  have h2 : Below x1.heap.size x1 (x1.alloc (.cells #[.nilIface, .int .i32 0, .int .i32 0] 119)) := (Below.refl _ _).alloc (Nat.le_refl _) _
  have t2 := th_new x1 #[.nilIface, .int .i32 0, .int .i32 0] 119 (n := 3) rfl
  have s2 : (x1.alloc (.cells #[.nilIface, .int .i32 0, .int .i32 0] 119)).heap.size = w.heap.size + 2 := by rw [World.size_alloc, s1]
  rw [s1] at t2
  have r2 := rg_keep h2 r1
  have h12 := h1.trans (h2.mono h1.size)
  generalize x1.alloc _ = w2 at *
  obtain ⟨b1, hb1⟩ : ∃ b, b = w.heap.size := ⟨_, rfl⟩
  obtain ⟨b2, hb2⟩ : ∃ b, b = b1 + 1 := ⟨_, rfl⟩
  rw [← hb1] at r2 t2 ⊢
  rw [← hb2] at t2 ⊢
  have H2 := Lib.hid (And.intro r2 (And.intro t2 (And.intro h12 (show w.heap.size = b1 ∧ b1 + 1 = b2 ∧ w2.heap.size = b2 + 1 from ⟨hb1.symm, hb2.symm, by omega⟩))))
  have e0 := r2 0 _ rfl
  simp only [Nat.zero_add] at e0
  clear h1 r1 s1 h2 s2 r2 t2 h12 hb1 hb2 x1
  as_aux_lemma =>
  cases wb with
  | false =>
    as_aux_lemma =>
    have e2 := H2.out.1 2 _ rfl
    simp only [Nat.zero_add] at e2
    go_wp2_with fail
    refine (bare_any nm w2).mono ?_
    rintro e w6 ⟨q, rfl, hq1, hq2, hq3, hq4⟩
    have hth := th_keep hq4 H2.out.2.1
    have HTH := Lib.hid hth
    have hone : (#[ifP q, .int .i32 0, .int .i32 0] : Array Value).all (·.oneCell') = true := by simp [Value.oneCell']
    have hres := World.rangeAt_setCells_same w6 b2 0 [ifP q, .int .i32 0, .int .i32 0] hth
    have hfin : BsP ⟨false, kd, nm, I⟩ w (.returned (.agg #[ifP q, .int .i32 0, .int .i32 0])) (w6.setCells b2 0 [ifP q, .int .i32 0, .int .i32 0]) := by
      have h2 := H2.out.2.2.2
      refine ⟨ifP q, rfl, ⟨q, rfl, by omega, by rw [size_setCells]; exact hq3, ?_⟩, below_setCells (by omega) _ _ (H2.out.2.2.1.trans (hq4.mono H2.out.2.2.1.size)), rfl, by rw [size_setCells]; have := hq4.size; omega⟩
      exact rg_ag (hso b2 _ 0 w6 (by omega)) hq1
    have HFIN := Lib.hid hfin
    clear hth hfin hq1 hq2 hq3 hq4 e2 e0
    go_wp2_with (refine wpList_store_mid rfl 119 _ _ rfl b2 0 #[ifP q, .int .i32 0, .int .i32 0] ?ha ?hv HTH.out szSub hone ?_; (case ha => exact rfl); (case hv => exact rfl); (change wpList _ _ _ _ _ (World.setCells _ b2 0 [ifP q, .int .i32 0, .int .i32 0])); generalize World.setCells _ _ _ _ = w7 at *)
    exact bodyPost_ret (results_cell_mid rfl _ _ b2 0 [ifP q, .int .i32 0, .int .i32 0] tS rfl hres hS hS2 szSub) rfl HFIN.out
  | true =>
    as_aux_lemma =>
    have hD : Below w2.heap.size w2 w2.drew := (Below.refl _ _).drew
    have f1 := H2.out.1 1 _ rfl
    have f3 := H2.out.1 3 _ rfl
    simp only [Nat.zero_add] at f1 f3
    have HS0 := Lib.hid (And.intro (later hD f1) (later hD f3))
    have H3 := Lib.hid (And.intro (th_keep hD H2.out.2.1) (And.intro (H2.out.2.2.1.drew) (show w.heap.size = b1 ∧ b1 + 1 = b2 ∧ w2.drew.heap.size = b2 + 1 from H2.out.2.2.2)))
    clear f1 f3 hD H2
    go_upto_region 2 with fail
    clear e0
    refine Pl.wp_region_split (fun w' => w'.cell? ⟨b1, 1, none⟩ = some (.int .u8 (kd : Nat)) ∧ w'.cell? ⟨b1, 3, none⟩ = some (.slice a n c)) 6 (by kernel_rfl) (by kernel_rfl) ?_
    simp only [List.take_succ_cons, List.take_zero]
    have hHeld := HS0.out
    refine Pl.take_l (i := 0) (v := ?v1) rfl (by kernel_rfl) (by kernel_rfl) (by kernel_rfl) (fun _ _ _ h => h) rfl ?hy1 hHeld ?rest1
    case hy1 => (intro w hSw; (try dsimp only at hSw); (try obtain ⟨_, _⟩ := hSw); go_simp <;> (try with_reducible rfl))
    try simp only [Act.put, List.setIfInBounds_toArray, List.set_cons_zero, List.set_cons_succ]
    refine Pl.take_l (i := 1) (v := ?v2) rfl (by kernel_rfl) (by kernel_rfl) (by kernel_rfl) (fun _ _ _ h => h) rfl ?hy2 hHeld ?rest2
    case hy2 => (intro w hSw; (try dsimp only at hSw); (try obtain ⟨_, _⟩ := hSw); go_simp <;> (try with_reducible rfl))
    try simp only [Act.put, List.setIfInBounds_toArray, List.set_cons_zero, List.set_cons_succ]
    refine Pl.take_l (i := 3) (v := ?v3) rfl (by kernel_rfl) (by kernel_rfl) (by kernel_rfl) (fun _ _ _ h => h) rfl ?hy3 hHeld ?rest3
    case hy3 => (intro w hSw; (try dsimp only at hSw); (try obtain ⟨_, _⟩ := hSw); go_simp <;> (try with_reducible rfl))
    try simp only [Act.put, List.setIfInBounds_toArray, List.set_cons_zero, List.set_cons_succ]
    refine Pl.take_l (i := 4) (v := ?v4) rfl (by kernel_rfl) (by kernel_rfl) (by kernel_rfl) (fun _ _ _ h => h) rfl ?hy4 hHeld ?rest4
    case hy4 => (intro w hSw; (try dsimp only at hSw); (try obtain ⟨_, _⟩ := hSw); go_simp <;> (try with_reducible rfl))
    try simp only [Act.put, List.setIfInBounds_toArray, List.set_cons_zero, List.set_cons_succ]
    generalize World.drew _ = wd at *
    refine Pl.alone_l (i := 2) (by kernel_rfl) rfl (fun K hK => ?_)
    go_simp; refine (kind_any kd hkd wd).mono ?_; rintro e w6 ⟨rfl, hf⟩; rw [← hf]; clear hf; dsimp only
    refine hK.out _ _ HS0.out (fun hHeld2 => ?_)
    clear hK K hHeld
    have hHeld := hHeld2
    clear hHeld2
    try simp only [Act.put, List.setIfInBounds_toArray, List.set_cons_zero, List.set_cons_succ]
    have hXd : ∀ b, X b → b < wd.heap.size := fun b h => Nat.lt_of_lt_of_le (HI.out.2.1 b h) H3.out.2.1.size
    have hbin := bin_any X (.slice a n c) I wd (HI.out.1.to (To.below HI.out.2.1 H3.out.2.1)) hXd HI.out.2.2
    have HBIN := Lib.hid hbin
    clear hXd hbin
    refine Pl.alone_l (i := 5) (by kernel_rfl) rfl (fun K hK => ?_)
    go_simp; refine HBIN.out.mono ?_; rintro e w6 ⟨v6, rfl, hw6, hb6⟩; have HW6 := Lib.hid (And.intro hw6 hb6); clear hw6 hb6; dsimp only
    refine hK.out _ _ (⟨later HW6.out.2 HS0.out.1, later HW6.out.2 HS0.out.2⟩) (fun hHeld2 => ?_)
    clear hK K hHeld
    have hHeld := hHeld2
    clear hHeld2
    try simp only [Act.put, List.setIfInBounds_toArray, List.set_cons_zero, List.set_cons_succ]
    refine wpAnyH_done (by kernel_rfl) ?_ _
    refine Pl.behind_normal (by decide) ?_
    simp only [List.drop_succ_cons, List.drop_zero]
    clear hHeld
    obtain ⟨q6, u6, ys6, hv6, -⟩ := id HW6.out.1
    subst hv6
    go_wp2_with fail
    refine (wrap_any (some ⟨q6, 0, none⟩) 1 1 (kindN kd) w6).mono ?_
    rintro e w8 ⟨q, rfl, hq1, hq2, hq3, hq4⟩
    have hb28 : Below wd.heap.size wd w8 := HW6.out.2.trans (hq4.mono HW6.out.2.size)
    have hth := th_keep hb28 H3.out.1
    have HTH := Lib.hid hth
    have hone : (#[ifL q, .int .i32 0, .int .i32 0] : Array Value).all (·.oneCell') = true := by simp [Value.oneCell']
    have hres := World.rangeAt_setCells_same w8 b2 0 [ifL q, .int .i32 0, .int .i32 0] hth
    have hfin : BsP ⟨true, kd, nm, I⟩ w (.returned (.agg #[ifL q, .int .i32 0, .int .i32 0])) (w8.setCells b2 0 [ifL q, .int .i32 0, .int .i32 0]) := by
      have h3 := H3.out.2.2
      have hsz := HW6.out.2.size
      have hz8 := hq4.size
      refine ⟨ifL q, rfl, ⟨q, .slice (some ⟨q6, 0, none⟩) 1 1, I.map bIn, w6.heap.size, rfl, rfl, by omega, by omega, by rw [size_setCells]; exact hq3, ?_, kindN_lt kd, ?_⟩, below_setCells (by omega) _ _ (H3.out.2.1.trans (hb28.mono H3.out.2.1.size)), rfl, by rw [size_setCells]; omega⟩
      · exact rg_ag (hso b2 _ 0 w8 (by omega)) hq1
      · have hWr : Wr wd.heap.size w6.heap.size w8 (.slice (some ⟨q6, 0, none⟩) 1 1) (I.map bIn) := HW6.out.1.to (fun b p1 p2 => hq4.block b p2) hz8
        refine (hWr.to (fun b p1 p2 => hso b2 _ 0 w8 (by omega)) (by rw [size_setCells]; exact Nat.le_refl _)).down (by omega)
    have HFIN := Lib.hid hfin
    clear hth hfin hq1 hq2 hq3 hq4 hb28
    go_wp2_with (refine wpList_store_mid rfl 119 _ _ rfl b2 0 #[ifL q, .int .i32 0, .int .i32 0] ?ha ?hv HTH.out szSub hone ?_; (case ha => exact rfl); (case hv => exact rfl); (change wpList _ _ _ _ _ (World.setCells _ b2 0 [ifL q, .int .i32 0, .int .i32 0])); generalize World.setCells _ _ _ _ = w9 at *)
    exact bodyPost_ret (results_cell_mid rfl _ _ b2 0 [ifL q, .int .i32 0, .int .i32 0] tS rfl hres hS hS2 szSub) rfl HFIN.out
end Go.Proofs.Ytbpnmiedomchpaa.Fg
