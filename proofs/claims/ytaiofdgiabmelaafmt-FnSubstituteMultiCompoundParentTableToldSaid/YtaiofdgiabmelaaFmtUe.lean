/-
  ComplexSelector.Clone.
-/
import Derived.Test.YtaiofdgiabmelaaFmtUd
namespace Go.Proofs.YtaiofdgiabmelaaFmt.Sb
open Go.ChangeShapes Go.WideShapes Go.ChangeAt Go.RowKit Rg
set_option linter.unusedVariables false
theorem own_sets {B g c n s : Nat} {e : TypeId} : ∀ (vs : List Value) {A Z C : List Value} {w : World}, w.ownsRow B e s (.slice (some ⟨g, 0, none⟩) n c) n (A ++ (Z ++ C)) → Z.length = vs.length →
    (w.setCells g A.length vs).ownsRow B e s (.slice (some ⟨g, 0, none⟩) n c) n (A ++ (vs ++ C)) ∧ w.grownBy (w.setCells g A.length vs) (some g)
  | [], A, Z, C, w, h, hz => by
    have : Z = [] := List.eq_nil_of_length_eq_zero hz
    subst this
    exact ⟨h, ⟨rfl, rfl, rfl, Nat.le_refl _, fun _ _ _ => rfl⟩⟩
  | u :: r, A, [], C, w, h, hz => by simp at hz
  | u :: r, A, z :: Z, C, w, h, hz => by
    obtain ⟨h1, g1⟩ := h.stored A.length u
    have e1 : (A ++ (z :: Z ++ C)).set A.length u = (A ++ [u]) ++ (Z ++ C) := by
      rw [List.set_append_right _ _ (Nat.le_refl _), Nat.sub_self]
      simp
    rw [e1] at h1
    obtain ⟨h2, g2⟩ := own_sets r h1 (by simpa using hz)
    rw [show (A ++ [u]).length = A.length + 1 by simp] at h2 g2
    refine ⟨?_, g1.trans g2⟩
    have e2 : (A ++ [u]) ++ (r ++ C) = A ++ (u :: r ++ C) := by simp
    rw [e2] at h2
    exact h2
/-- a row of n compounds of which the first k are cloned -/
def ClC (g n : Nat) (L : List Cm) (k : Nat) (w0 w : World) : Prop :=
  ∃ (R : List Cr) (C : List Value), R.length = k ∧ R.map (·.m) = L.take k ∧ w.ownsRow w0.heap.size 41 6 (.slice (some ⟨g, 0, none⟩) n n) n (R.flatMap Cr.cells ++ C) ∧ (∀ r ∈ R, FCm (fun b => g < b ∧ b < w.heap.size) w r) ∧ Below w0.heap.size w0 w
section
variable {g n : Nat} {L : List Cm} {k : Nat} {w0 w w' : World}
theorem ClC.below (h : ClC g n L k w0 w) : Below w0.heap.size w0 w := by
  obtain ⟨P, C, h1, h2, h3, h4, h5⟩ := h
  exact h5
theorem ClC.row (h : ClC g n L k w0 w) : ∃ xs, w.ownsRow w0.heap.size 41 6 (.slice (some ⟨g, 0, none⟩) n n) n xs := by
  obtain ⟨P, C, h1, h2, h3, h4, h5⟩ := h
  exact ⟨_, h3⟩
theorem ClC.rowlt (h : ClC g n L k w0 w) : w0.heap.size ≤ g ∧ g < w.heap.size := by
  obtain ⟨xs, h⟩ := h.row
  exact h.lt g rfl
theorem ClC.keep (h : ClC g n L k w0 w) (hb : Below w.heap.size w w') : ClC g n L k w0 w' := by
  obtain ⟨P, C, h1, h2, h3, h4, h5⟩ := h
  exact ⟨P, C, h1, h2, own_keep h3 hb, fun r hr => ((h4 r hr).ag (ag_below (fun b h => h.2) hb)).more (fun b h => ⟨h.1, Nat.lt_of_lt_of_le h.2 hb.size⟩), h5.trans (hb.mono h5.size)⟩
theorem ClC.put (h : ClC g n L k w0 w) (hk : k < n) (hn : n = L.length) {r : Cr} (hm : r.m = L[k]'(by omega)) (hr : FCm (fun b => g < b ∧ b < w.heap.size) w r) : ClC g n L (k + 1) w0 (w.setCells g (k * 6) r.cells) := by
  have hg := h.rowlt
  obtain ⟨R, C, h1, h2, h3, h4, h5⟩ := h
  have hfl : (R.flatMap Cr.cells).length = k * 6 := by rw [flat_len Cr.cells (s := 6) (fun _ => rfl), h1]
  have hcl : k * 6 + C.length = n * 6 := by have := h3.1; rw [List.length_append, hfl] at this; exact this
  obtain ⟨Z, C', rfl, hz⟩ : ∃ Z C', C = Z ++ C' ∧ Z.length = r.cells.length := ⟨C.take 6, C.drop 6, (List.take_append_drop 6 C).symm, by rw [List.length_take]; show min 6 C.length = 6; omega⟩
  obtain ⟨h6, h7⟩ := own_sets r.cells h3 hz
  rw [hfl] at h6 h7
  have hsz := size_setCells g r.cells (k * 6) w
  have hag : ∀ b, (g < b ∧ b < w.heap.size) → (w.setCells g (k * 6) r.cells).heap[b]? = w.heap[b]? := fun b hb => h7.block b hb.2 (fun e => by injection e with e; omega)
  refine ⟨R ++ [r], C', by simp [h1], ?_, ?_, fun x hx => ?_, below_setCells hg.1 _ _ h5⟩
  · rw [List.map_append, h2, List.take_succ_eq_append_getElem (show k < L.length by omega), ← hm]
    rfl
  · rw [List.flatMap_append]
    simpa using h6
  · have hx2 : FCm (fun b => g < b ∧ b < w.heap.size) w x := by
      rcases List.mem_append.1 hx with hx | hx
      · exact h4 x hx
      · obtain rfl : x = r := by simpa using hx
        exact hr
    exact (hx2.ag hag).more (fun b h => ⟨h.1, by rw [hsz]; exact h.2⟩)
theorem ClC.done (h : ClC g n L n w0 w) (hn : n = L.length) : FCms (fun b => g ≤ b ∧ b < w.heap.size) w (.slice (some ⟨g, 0, none⟩) n n) L := by
  have hg := h.rowlt
  obtain ⟨R, C, h1, h2, h3, h4, h5⟩ := h
  have hC : C = [] := by
    have h6 := h3.1
    rw [List.length_append, flat_len Cr.cells (s := 6) (fun _ => rfl), h1] at h6
    exact List.eq_nil_of_length_eq_zero (by omega)
  subst hC
  refine ⟨R, ?_, by rw [h2, hn, List.take_length], fun q hq => ?_, fun r hr => (h4 r hr).more (fun b h => ⟨by omega, h.2⟩)⟩
  · rw [h1]
    have h6 := own_zero h3
    rw [List.append_nil] at h6
    exact h6
  · simp [Value.ownBlock] at hq
    exact ⟨by omega, by omega⟩
end
/-- what ComplexSelector.Clone answers -/
def CxP (L : List Cm) (w : World) (e : Ending) (w' : World) : Prop :=
  ∃ g, e = .returned (.agg #[.slice (some ⟨g, 0, none⟩) L.length L.length]) ∧ FCms (fun b => w.heap.size ≤ b ∧ b < w'.heap.size) w' (.slice (some ⟨g, 0, none⟩) L.length L.length) L ∧ Below w.heap.size w w'
/-- the loop's state -/
def CX (b1 b3 g n : Nat) (L : List Cm) (k : Nat) (w0 w : World) : Prop :=
  ClC g n L k w0 w ∧ w.cell? ⟨b3, 0, none⟩ = some (.slice (some ⟨g, 0, none⟩) n n) ∧ w.there b1 0 1
theorem CX.keep {b1 b3 g n : Nat} {L : List Cm} {k : Nat} {w0 w w' : World} (h : CX b1 b3 g n L k w0 w) (hb : Below w.heap.size w w') : CX b1 b3 g n L k w0 w' := ⟨h.1.keep hb, later hb h.2.1, th_keep hb h.2.2⟩
theorem CX.put {b1 b3 g n : Nat} {L : List Cm} {k : Nat} {w0 w : World} (h : CX b1 b3 g n L k w0 w) (hk : k < n) (hn : n = L.length) {r : Cr} (hm : r.m = L[k]'(by omega)) (hr : FCm (fun b => g < b ∧ b < w.heap.size) w r) (hne : b3 ≠ g ∧ b1 ≠ g) : CX b1 b3 g n L (k + 1) w0 (w.setCells g (k * 6) r.cells) := by
  obtain ⟨h1, h2, h3⟩ := h
  refine ⟨h1.put hk hn hm hr, ?_, World.there_setCells h3 g (k * 6) r.cells⟩
  have := World.rangeAt_setCells_apart (w := w) (b' := b3) (o' := 0) (cs := [.slice (some ⟨g, 0, none⟩) n n]) (fun j v hv => by
    cases j with
    | zero => simp at hv; subst hv; exact h2
    | succ j => simp at hv) g (k * 6) r.cells (.inl hne.1)
  exact this 0 _ rfl
set_option maxRecDepth 100000 in
set_option maxHeartbeats 4000000 in
theorem cxl_any (vp : Value) (L : List Cm) (X : Nat → Prop) (w : World) (hN : L.length ≤ 1048576) (h0 : ∀ c ∈ L, c.am = 0 ∧ c.N.length ≤ 1048576) (hX : ∀ b, X b → b < w.heap.size) (hs : FCms X w vp L) :
    Calls Tryf.prog 26 #[.agg #[vp]] w (CxP L w) := by
  obtain ⟨R, ho, hR, hRX, hRm⟩ := hs
  obtain ⟨a, c, rfl⟩ := own_slice ho
  have hRl : R.length = L.length := by rw [← hR, List.length_map]
  obtain ⟨n, hn⟩ : ∃ n, n = R.length := ⟨_, rfl⟩
  have HL := Lib.hid (show n = L.length by omega)
  have hn2 : n ≤ 1048576 := by omega
  obtain ⟨i0, hi, hz0, hz1, hz2⟩ := info_parts infoCmp
  have hmk := fun W => run_make_rowN (P := Tryf.prog) 31 41 i0 _ (by kernel_rfl) hi hz0 .i64 .i64 n n (Nat.le_refl _) (by rw [hz2]; omega) (by omega) W
  rw [hz1] at hmk
  have HO := Lib.hid (And.intro ho (And.intro hRm (And.intro hX (And.intro hR hn))))
  have H0 := Lib.hid h0
  rw [← hn]
  obtain ⟨dC, hC, hC2⟩ := tyCmp
  clear ho hR hRX hRm hX hi hz0 hz1 hz2 hn h0 hRl hN
  go_enter Tryf.func26, Tryf.ntmps26
  go_wp2_with fail
  obtain ⟨b0, hb0⟩ : ∃ b, b = w.heap.size := ⟨_, rfl⟩
  obtain ⟨b1, hb1⟩ : ∃ b, b = b0 + 1 := ⟨_, rfl⟩
  obtain ⟨g, hg⟩ : ∃ b, b = b1 + 1 := ⟨_, rfl⟩
  obtain ⟨b3, hb3⟩ : ∃ b, b = g + 1 := ⟨_, rfl⟩
  have HST : Hid (CX b1 b3 g n L 0 w ((((w.alloc (.cells #[.slice a n c] 44)).alloc (.cells #[.slice none 0 0] 44)).alloc (.cells (madeCells #[.pointer none, .slice none 0 0, .slice none 0 0, .int .i32 0, .int .u8 0, .bool false] (n * 6)) 41)).alloc (.cells #[.slice (some ⟨g, 0, none⟩) n n] 44))) := by
    have h0 : Below w.heap.size w (w.alloc (.cells #[.slice a n c] 44)) := (Below.refl _ _).alloc (Nat.le_refl _) _
    have s1 : (w.alloc (.cells #[.slice a n c] 44)).heap.size = b1 := by rw [World.size_alloc]; omega
    generalize w.alloc (.cells #[.slice a n c] 44) = x1 at *
    have t1 := th_new x1 #[.slice none 0 0] 44 (n := 1) rfl
    have h1 : Below x1.heap.size x1 (x1.alloc (.cells #[.slice none 0 0] 44)) := (Below.refl _ _).alloc (Nat.le_refl _) _
    have s2 : (x1.alloc (.cells #[.slice none 0 0] 44)).heap.size = g := by rw [World.size_alloc, s1]; exact hg.symm
    generalize x1.alloc _ = x2 at *
    have o3 := World.ownsRow_lit (base := w.heap.size) (e := 41) (size := 6) x2 (madeCells #[.pointer none, .slice none 0 0, .slice none 0 0, .int .i32 0, .int .u8 0, .bool false] (n * 6)) n (by omega) (by unfold maxLen; omega) (size_madeCells _ _)
    have h2 : Below x2.heap.size x2 (x2.alloc (.cells (madeCells #[.pointer none, .slice none 0 0, .slice none 0 0, .int .i32 0, .int .u8 0, .bool false] (n * 6)) 41)) := (Below.refl _ _).alloc (Nat.le_refl _) _
    have s3 : (x2.alloc (.cells (madeCells #[.pointer none, .slice none 0 0, .slice none 0 0, .int .i32 0, .int .u8 0, .bool false] (n * 6)) 41)).heap.size = b3 := by rw [World.size_alloc, s2]; exact hb3.symm
    generalize x2.alloc _ = x3 at *
    have r3 := rg_new x3 #[.slice (some ⟨g, 0, none⟩) n n] 44
    have h3 : Below x3.heap.size x3 (x3.alloc (.cells #[.slice (some ⟨g, 0, none⟩) n n] 44)) := (Below.refl _ _).alloc (Nat.le_refl _) _
    generalize x3.alloc _ = x4 at *
    rw [s1] at t1
    rw [s2] at o3
    rw [s3] at r3
    have h03 : Below w.heap.size w x3 := (h0.trans (h1.mono h0.size)).trans (h2.mono (Nat.le_trans h0.size h1.size))
    exact Lib.hid ⟨⟨[], _, rfl, rfl, by simpa using own_keep o3 h3, (by simp), h03.trans (h3.mono h03.size)⟩, r3 0 _ rfl, th_keep h3 (th_keep h2 t1)⟩
  rw [← hb0, ← hb1, ← hg, ← hb3]
  generalize (World.alloc (World.alloc (World.alloc (World.alloc _ _) _) _) _ : World) = w4 at HST ⊢
  have HBS := Lib.hid (And.intro hb0 (And.intro hb1 (And.intro hg hb3)))
  clear hmk hb0 hb1 hg hb3
  go_loopw [14] (fun i wr => ∃ (k : Nat), k ≤ n ∧ i = .int .i64 k ∧ Hid (CX b1 b3 g n L k w wr)) (fun i _ => n - (intOf i).toNat)
  case atStart => exact ⟨0, Nat.zero_le _, rfl, HST⟩
  case round =>
    clear HST
    obtain ⟨k, hk, rfl, HW⟩ := hrel
    by_cases hlt : k < n
    · as_aux_lemma =>
      have q0 : (0 : Int) ≤ k := by omega
      have q1 : (k : Int) < n := by omega
      have kR : k < R.length := by have := HO.out.2.2.2.2; omega
      have kL : k < L.length := by have := HL.out; omega
      obtain ⟨pg, cg, hve, -, -⟩ := HO.out.1.form (by omega)
      simp only [Value.slice.injEq] at hve
      obtain ⟨rfl, hx1, rfl⟩ := hve
      clear hx1
      have hbw : Below w.heap.size w wr := HW.out.1.below
      have r0 := own_range (f := Cr.cells) (s := 6) (L := R) (own_keep HO.out.1 hbw) (fun x => rfl) kR
      have hfm := HO.out.2.1 _ (List.getElem_mem kR)
      have hm : (R[k]).m = L[k] := by
        have h := List.getElem_of_eq HO.out.2.2.2.1 (i := k) (by simpa using kR)
        simpa using h
      obtain ⟨r, hr⟩ : ∃ r, r = R[k] := ⟨_, rfl⟩
      rw [← hr] at r0 hfm hm
      clear hr kR
      have h00 := H0.out _ (List.getElem_mem kL)
      rw [← hm] at h00
      obtain ⟨hsub, an, cn, hvn, hloc⟩ := hfm.ag (ag_below HO.out.2.2.1 hbw)
      obtain ⟨vs, vn, m⟩ := r
      dsimp only at hsub hvn h00 hm r0
      rw [h00.1] at hvn
      subst hvn
      obtain ⟨P', ho', hP', _, _⟩ := id hsub
      obtain ⟨va, vc, rfl⟩ := own_slice ho'
      obtain ⟨pn, hpn⟩ : ∃ n, n = P'.length := ⟨_, rfl⟩
      rw [← hpn] at r0 hsub
      have HSB := Lib.hid (And.intro hsub h00.2)
      have HM := Lib.hid hm
      obtain ⟨cb, am, N⟩ := m
      dsimp only at HSB HM
      have HRG := Lib.hid (show wr.rangeAt pg (k * 6) (cmc (.slice va pn vc) (.slice an 0 cn) cb) from r0)
      have hXlt : ∀ b, X b → b < wr.heap.size := fun b h => Nat.lt_of_lt_of_le (HO.out.2.2.1 b h) hbw.size
      have HXL := Lib.hid hXlt
      have HAM := Lib.hid h00.1
      clear hsub hloc ho' hP' hpn r0 h00 hbw hm hXlt hfm
      go_upto_region 5 with (first
        | (refine wpList_load_mid rfl 41 _ rfl pg (k * 6) rfl (cmc (.slice va pn vc) (.slice an 0 cn) cb) dC HRG.out hC hC2 szCmp ?_)
        | (refine wpList_store_mid rfl 41 _ _ rfl wr.heap.size 0 (cmc (.slice va pn vc) (.slice an 0 cn) cb).toArray rfl rfl (th_new wr _ _ rfl) szCmp (cmc_all _ _ _ _ _ _ _) ?_))
      have hbS : Below wr.heap.size wr ((wr.alloc (.cells #[.pointer none, .slice none 0 0, .slice none 0 0, .int .i32 0, .int .u8 0, .bool false] 41)).setCells wr.heap.size 0 (cmc (.slice va pn vc) (.slice an 0 cn) cb)) := below_setCells (Nat.le_refl _) _ _ ((Below.refl _ _).alloc (Nat.le_refl _) _)
      have hrS : ((wr.alloc (.cells #[.pointer none, .slice none 0 0, .slice none 0 0, .int .i32 0, .int .u8 0, .bool false] 41)).setCells wr.heap.size 0 (cmc (.slice va pn vc) (.slice an 0 cn) cb)).rangeAt wr.heap.size 0 (cmc (.slice va pn vc) (.slice an 0 cn) cb) := World.rangeAt_setCells_same _ _ _ _ (th_new wr _ _ rfl)
      generalize World.setCells _ _ _ _ = w5 at *
      have hbD : Below wr.heap.size wr w5.drew := hbS.drew
      have HD := Lib.hid (show CX b1 b3 g n L k w w5.drew ∧ w5.drew.rangeAt wr.heap.size 0 (cmc (.slice va pn vc) (.slice an 0 cn) cb) ∧ FSub X w5.drew (.slice va pn vc) N ∧ (∀ b, X b → b < w5.drew.heap.size) from
        ⟨HW.out.keep hbD, rg_keep ((Below.refl _ _).drew) hrS, HSB.out.1.ag (ag_below HXL.out hbD), fun b h => Nat.lt_of_lt_of_le (HXL.out b h) hbD.size⟩)
      clear hrS
      clear hbS hbD HRG HW
      generalize wr.heap.size = bx at *
      have HS0 := Lib.hid (show w5.drew.cell? ⟨b3, 0, none⟩ = some (.slice (some ⟨g, 0, none⟩) n n) ∧ w5.drew.rangeAt bx 0 (cmc (.slice va pn vc) (.slice an 0 cn) cb) from ⟨HD.out.1.2.1, HD.out.2.1⟩)
      refine Pl.wp_region_split (fun w' => w'.cell? ⟨b3, 0, none⟩ = some (.slice (some ⟨g, 0, none⟩) n n) ∧ w'.rangeAt bx 0 (cmc (.slice va pn vc) (.slice an 0 cn) cb)) 5 (by kernel_rfl) (by kernel_rfl) ?_
      simp only [List.take_succ_cons, List.take_zero]
      have hHeld := HS0.out
      refine Pl.take_l (i := 0) (v := ?v1) rfl (by kernel_rfl) (by kernel_rfl) (by kernel_rfl) (fun _ _ _ h => h) rfl ?hy1 hHeld ?rest1
      case hy1 => (intro w hSw; (try dsimp only at hSw); (try obtain ⟨_, _⟩ := hSw); go_simp <;> (try with_reducible rfl))
      try simp only [Act.put, List.setIfInBounds_toArray, List.set_cons_zero, List.set_cons_succ]
      refine Pl.take_l (i := 1) (v := ?v2) rfl (by kernel_rfl) (by kernel_rfl) (by kernel_rfl) (fun _ _ _ h => h) rfl ?hy2 hHeld ?rest2
      case hy2 => (intro w hSw; (try dsimp only at hSw); (try obtain ⟨_, _⟩ := hSw); go_simp <;> (try with_reducible rfl))
      try simp only [Act.put, List.setIfInBounds_toArray, List.set_cons_zero, List.set_cons_succ]
      refine Pl.take_l (i := 2) (v := ?v3) rfl (by kernel_rfl) (by kernel_rfl) (by kernel_rfl) (fun _ _ _ h => h) rfl ?hy3 hHeld ?rest3
      case hy3 => (intro w hSw; (try dsimp only at hSw); (try obtain ⟨_, _⟩ := hSw); go_simp <;> (try with_reducible rfl))
      try simp only [Act.put, List.setIfInBounds_toArray, List.set_cons_zero, List.set_cons_succ]
      refine Pl.take_l (i := 3) (v := .agg #[.pointer none, .slice va pn vc, .slice an 0 cn, .int .i32 0, .int .u8 cb, .bool false]) rfl (by kernel_rfl) (by kernel_rfl) (by kernel_rfl) (fun _ _ _ h => h) rfl (fun w hSw => ex_load 41 (.tmp 5) rfl bx 0 rfl (cmc (.slice va pn vc) (.slice an 0 cn) cb) dC (hSw.2) hC hC2 szCmp) hHeld ?_
      try simp only [Act.put, List.setIfInBounds_toArray, List.set_cons_zero, List.set_cons_succ]
      generalize World.drew _ = wd at *
      refine Pl.alone_l (i := 4) (by kernel_rfl) rfl (fun K hK => ?_)
      go_simp; refine (ccl_any (.slice va pn vc) an 0 cn cb N X wd HSB.out.2 HD.out.2.2.2 HD.out.2.2.1).mono ?_; rintro e w6 ⟨na, nn, nc, rfl, hf, hb⟩; have HF := Lib.hid (And.intro hf hb); clear hf hb; dsimp only
      refine hK.out _ _ (⟨later HF.out.2 HS0.out.1, rg_keep HF.out.2 HS0.out.2⟩) (fun hHeld2 => ?_)
      clear hK K hHeld
      have hHeld := hHeld2
      clear hHeld2
      try simp only [Act.put, List.setIfInBounds_toArray, List.set_cons_zero, List.set_cons_succ]
      refine wpAnyH_done (by kernel_rfl) ?_ _
      refine Pl.behind_normal (by decide) ?_
      simp only [List.drop_succ_cons, List.drop_zero]
      clear hHeld
      have HW6 := Lib.hid (HD.out.1.keep HF.out.2)
      have hrow := HW6.out.1.rowlt
      have hlo := HD.out.1.1.rowlt
      have HN := Lib.hid (HW6.out.put hlt HL.out (r := ⟨.slice na nn nc, .slice an 0 cn, ⟨cb, 0, N⟩⟩) (by rw [← HM.out]; have h := HAM.out; dsimp only at h; subst h; rfl) ⟨HF.out.1.more (fun b h => ⟨by omega, h.2⟩), an, cn, rfl, fun j hj => absurd hj (Nat.not_lt_zero _)⟩ (by have := HBS.out; omega))
      have HTH := Lib.hid (own_there HW6.out.1.row.choose_spec (k := k * 6) (m := 6) (by omega))
      have HON := Lib.hid (cmc_all na an nn nc 0 cn cb)
      clear hrow hlo HD HS0 HF HSB
      go_wp2_with (first
        | (refine wpList_store_mid rfl 41 _ _ rfl g (k * 6) #[.pointer none, .slice na nn nc, .slice an 0 cn, .int .i32 0, .int .u8 cb, .bool false] ?ha ?hv HTH.out szCmp HON.out ?_; (case ha => exact rfl); (case hv => exact rfl); (change wpList _ _ _ _ _ (World.setCells _ g (k * 6) (Cr.cells ⟨.slice na nn nc, .slice an 0 cn, ⟨cb, 0, N⟩⟩))); generalize World.setCells _ _ _ _ = w7 at *))
      exact ⟨⟨k + 1, by omega, by go_num, HN⟩, by simp [intOf]; omega⟩
    · as_aux_lemma =>
      obtain rfl : k = n := by omega
      have HF := Lib.hid (HW.out.1.done HL.out)
      have hrow := HW.out.1.rowlt
      have d3 := HW.out.2.1
      obtain ⟨u1, hu1⟩ := Option.isSome_iff_exists.1 (HW.out.2.2 0 (by omega)).1
      have z1 := (HW.out.2.2 0 (by omega)).2
      rw [Nat.zero_add] at hu1 z1
      go_wp2_with fail
      have hag : ∀ b, (g ≤ b ∧ b < wr.heap.size) → (wr.setCell ⟨b1, 0, none⟩ (.slice (some ⟨g, 0, none⟩) k k)).heap[b]? = wr.heap[b]? := fun b hb => heap_setCell_other wr _ b _ (by have := HBS.out; show b ≠ b1; omega)
      have hbe : Below w.heap.size w (wr.setCell ⟨b1, 0, none⟩ (.slice (some ⟨g, 0, none⟩) k k)) := HW.out.1.below.setCell (by have := HBS.out; show w.heap.size ≤ b1; omega) _
      have hsz : (wr.setCell ⟨b1, 0, none⟩ (.slice (some ⟨g, 0, none⟩) k k)).heap.size = wr.heap.size := by simp [World.setCell]
      have hres : (wr.setCell ⟨b1, 0, none⟩ (.slice (some ⟨g, 0, none⟩) k k)).rangeAt b1 0 [.slice (some ⟨g, 0, none⟩) k k] := fun j v hv => by
        cases j with
        | zero => simp at hv; subst hv; exact set_same (by rw [hu1]; rfl)
        | succ j => simp at hv
      have hlt : L.length = k := HL.out.symm
      refine bodyPost_ret (results_cell_mid rfl _ _ b1 0 [.slice (some ⟨g, 0, none⟩) k k] _ rfl hres Tryf.underlying44 rfl (by kernel_rfl)) rfl ⟨g, by rw [hlt], ?_, hbe⟩
      rw [hlt]
      exact (HF.out.ag hag).more (fun b hb => ⟨by omega, by rw [hsz]; exact hb.2⟩)
end Go.Proofs.YtaiofdgiabmelaaFmt.Sb
