/-
  The replacement function's maker at one parent; ZZSubstitute.
-/
import Derived.Test.YtaiofdgiabmelaaFmtUh
namespace Go.Proofs.YtaiofdgiabmelaaFmt.Sb
open Go.ChangeShapes Go.WideShapes Go.ChangeAt Go.RowKit Rg
set_option linter.unusedVariables false
set_option linter.unusedSimpArgs false
set_option maxRecDepth 100000 in
set_option maxHeartbeats 1000000 in
theorem mk_any (pp gx cx : Nat) (w : World) :
    Calls Tryf.prog 18 #[.pointer (some ⟨pp, 0, none⟩), .slice (some ⟨gx, 0, none⟩) 1 cx] w
      (fun e w' => ∃ fb, e = .returned (.func (.func 28) #[] #[.pointer (some ⟨fb, 0, none⟩)]) ∧ w'.cell? ⟨fb, 0, none⟩ = some (.slice (some ⟨gx, 0, none⟩) 1 cx) ∧ w.heap.size ≤ fb ∧ Below w.heap.size w w') := by
  go_enter Tryf.func18, Tryf.ntmps18
  go_wp2_with fail
  go_ret
  exact ⟨_, rfl, rg_new w #[.slice (some ⟨gx, 0, none⟩) 1 cx] _ 0 _ rfl, Nat.le_refl _, (Below.refl _ _).alloc (Nat.le_refl _) _⟩
set_option maxRecDepth 100000 in
set_option maxHeartbeats 8000000 in
theorem zs_any (lg lc gx cx : Nat) (a : Option Addr) (m c : Nat) (cb : Int) (ra : Option Addr) (n rc : Nat) (st : Int) (w : World) (PO : Value → World → Prop)
    (hs : ∀ (pp fb : Nat) (w6 : World), Below w.heap.size w w6 → w6.cell? ⟨pp, 48, none⟩ = some (.int .u16 0) → w6.cell? ⟨fb, 0, none⟩ = some (.slice (some ⟨gx, 0, none⟩) 1 cx) → w.heap.size ≤ pp → w.heap.size ≤ fb →
      Calls Tryf.prog 17 #[.pointer (some ⟨pp, 0, none⟩), .agg #[.pointer none, .slice a m c, .slice (some ⟨lg, 0, none⟩) 1 lc, .int .i32 0, .int .u8 cb, .bool false], .func (.func 28) #[] #[.pointer (some ⟨fb, 0, none⟩)], .slice ra n rc, .int .u8 st] w6 (fun e w' => ∃ v, e = .returned v ∧ PO v w')) :
    Calls Tryf.prog 7 #[.agg #[.pointer none, .slice a m c, .slice (some ⟨lg, 0, none⟩) 1 lc, .int .i32 0, .int .u8 cb, .bool false], .slice (some ⟨gx, 0, none⟩) 1 cx, .slice ra n rc, .int .u8 st] w (fun e w' => ∃ v, e = .returned v ∧ PO v w') := by
  have HS := Lib.hid hs
  clear hs
  obtain ⟨dC, hC, hC2⟩ := tyCmp
  go_enter Tryf.func7, Tryf.ntmps7
  go_upto_region 2 with fail
  have h1 : Below w.heap.size w (w.alloc (.cells #[.pointer none, .slice a m c, .slice (some ⟨lg, 0, none⟩) 1 lc, .int .i32 0, .int .u8 cb, .bool false] 41)) := (Below.refl _ _).alloc (Nat.le_refl _) _
  have r1 := rg_new w #[.pointer none, .slice a m c, .slice (some ⟨lg, 0, none⟩) 1 lc, .int .i32 0, .int .u8 cb, .bool false] 41
  have s1 : (w.alloc (.cells #[.pointer none, .slice a m c, .slice (some ⟨lg, 0, none⟩) 1 lc, .int .i32 0, .int .u8 cb, .bool false] 41)).heap.size = w.heap.size + 1 := World.size_alloc _ _
  generalize w.alloc (.cells #[.pointer none, .slice a m c, .slice (some ⟨lg, 0, none⟩) 1 lc, .int .i32 0, .int .u8 cb, .bool false] 41) = x1 at *
  obtain ⟨pp, hpp⟩ : ∃ b, b = w.heap.size + 1 := ⟨_, rfl⟩
  obtain ⟨b4, hb4⟩ : ∃ b, b = w.heap.size := ⟨_, rfl⟩
  have hpc : ∀ cs T, cs[48]? = some (Value.int .u16 0) → (x1.alloc (.cells cs T)).cell? ⟨pp, 48, none⟩ = some (.int .u16 0) := fun cs T h => by
    have h2 := rg_new x1 cs T 48 _ (by rw [Array.getElem?_toList]; exact h)
    rw [s1, ← hpp, Nat.zero_add] at h2
    exact h2
  have hal : ∀ cs T, Below w.heap.size w (x1.alloc (.cells cs T)) ∧ (x1.alloc (.cells cs T)).rangeAt b4 0 (cmc (.slice a m c) (.slice (some ⟨lg, 0, none⟩) 1 lc) cb) := fun cs T => by
    have h3 : Below x1.heap.size x1 (x1.alloc (.cells cs T)) := (Below.refl _ _).alloc (Nat.le_refl _) _
    exact ⟨h1.trans (h3.mono h1.size), by rw [hb4]; exact rg_keep h3 r1⟩
  rw [← hpp, ← hb4]
  have hp0 : w.heap.size ≤ pp := by omega
  generalize hx2 : x1.alloc _ = x2
  have HPC : x2.cell? ⟨pp, 48, none⟩ = some (.int .u16 0) := by rw [← hx2]; exact hpc _ _ rfl
  have HAL2 : Below w.heap.size w x2 ∧ x2.rangeAt b4 0 (cmc (.slice a m c) (.slice (some ⟨lg, 0, none⟩) 1 lc) cb) := by rw [← hx2]; exact hal _ _
  clear hpc hal hpp hb4 s1 h1 r1 hx2
  have HS0 := Lib.hid (show Below w.heap.size w x2.drew ∧ x2.drew.rangeAt b4 0 (cmc (.slice a m c) (.slice (some ⟨lg, 0, none⟩) 1 lc) cb) ∧ x2.drew.cell? ⟨pp, 48, none⟩ = some (.int .u16 0) from ⟨HAL2.1.drew, rg_keep ((Below.refl _ _).drew) HAL2.2, later ((Below.refl _ _).drew) HPC⟩)
  clear HAL2 HPC
  refine Pl.wp_region_split (fun w' => w'.rangeAt b4 0 (cmc (.slice a m c) (.slice (some ⟨lg, 0, none⟩) 1 lc) cb)) 5 (by kernel_rfl) (by kernel_rfl) ?_
  simp only [List.take_succ_cons, List.take_zero]
  have hHeld := HS0.out.2.1
  refine Pl.take_l (i := 0) (v := .agg #[.pointer none, .slice a m c, .slice (some ⟨lg, 0, none⟩) 1 lc, .int .i32 0, .int .u8 cb, .bool false]) rfl (by kernel_rfl) (by kernel_rfl) (by kernel_rfl) (fun _ _ _ h => h) rfl (fun w hSw => ex_load 41 (.tmp 4) rfl b4 0 rfl (cmc (.slice a m c) (.slice (some ⟨lg, 0, none⟩) 1 lc) cb) dC (hSw) hC hC2 szCmp) hHeld ?_
  try simp only [Act.put, List.setIfInBounds_toArray, List.set_cons_zero, List.set_cons_succ]
  refine Pl.take_l (i := 1) (v := ?v1) rfl (by kernel_rfl) (by kernel_rfl) (by kernel_rfl) (fun _ _ _ h => h) rfl ?hy1 hHeld ?rest1
  case hy1 => (intro w hSw; (try dsimp only at hSw); (try obtain ⟨_, _⟩ := hSw); go_simp <;> (try with_reducible rfl))
  try simp only [Act.put, List.setIfInBounds_toArray, List.set_cons_zero, List.set_cons_succ]
  refine Pl.take_l (i := 3) (v := ?v2) rfl (by kernel_rfl) (by kernel_rfl) (by kernel_rfl) (fun _ _ _ h => h) rfl ?hy2 hHeld ?rest2
  case hy2 => (intro w hSw; (try dsimp only at hSw); (try obtain ⟨_, _⟩ := hSw); go_simp <;> (try with_reducible rfl))
  try simp only [Act.put, List.setIfInBounds_toArray, List.set_cons_zero, List.set_cons_succ]
  refine Pl.take_l (i := 4) (v := ?v3) rfl (by kernel_rfl) (by kernel_rfl) (by kernel_rfl) (fun _ _ _ h => h) rfl ?hy3 hHeld ?rest3
  case hy3 => (intro w hSw; (try dsimp only at hSw); (try obtain ⟨_, _⟩ := hSw); go_simp <;> (try with_reducible rfl))
  try simp only [Act.put, List.setIfInBounds_toArray, List.set_cons_zero, List.set_cons_succ]
  generalize World.drew _ = wd at *
  refine Pl.alone_l (i := 2) (by kernel_rfl) rfl (fun K hK => ?_)
  go_simp; refine (mk_any pp gx cx wd).mono ?_; rintro e w6 ⟨fb, rfl, hf1, hf2, hf3⟩; have HF := Lib.hid (And.intro hf1 (And.intro hf2 hf3)); clear hf1 hf2 hf3; dsimp only
  refine hK.out _ _ (rg_keep HF.out.2.2 HS0.out.2.1) (fun hHeld2 => ?_)
  clear hK K hHeld
  have hHeld := hHeld2
  clear hHeld2
  try simp only [Act.put, List.setIfInBounds_toArray, List.set_cons_zero, List.set_cons_succ]
  refine wpAnyH_done (by kernel_rfl) ?_ _
  refine Pl.behind_normal (by decide) ?_
  simp only [List.drop_succ_cons, List.drop_zero]
  clear hHeld
  go_wp2_with fail
  refine (HS.out pp fb w6 (HS0.out.1.trans (HF.out.2.2.mono HS0.out.1.size)) (later HF.out.2.2 HS0.out.2.2) HF.out.1 hp0 (Nat.le_trans HS0.out.1.size HF.out.2.1)).mono ?_
  rintro e w7 ⟨v, rfl, hv⟩
  go_wp2_with fail
  go_ret
  exact ⟨v, rfl, hv⟩
/-- what ZZSubstitute is given: the place, the parent's list, the two selectors -/
def WA (lg gx : Nat) (vp vs : Value) (N : List ByteArray) (L : List Cm) (X : Nat → Prop) (w : World) : Prop :=
  w.cell? ⟨lg, 0, none⟩ = some (.int .i32 0) ∧ w.cell? ⟨gx, 0, none⟩ = some vp ∧ X lg ∧ X gx ∧ FSub X w vs N ∧ FCms X w vp L
theorem wb_of {pp lg fb gx cx : Nat} {vp vs : Value} {N : List ByteArray} {L : List Cm} {X : Nat → Prop} {w w6 : World} (hX : ∀ b, X b → b < w.heap.size) (h : WA lg gx vp vs N L X w) (hb : Below w.heap.size w w6) (h1 : w6.cell? ⟨pp, 48, none⟩ = some (.int .u16 0)) (h2 : w6.cell? ⟨fb, 0, none⟩ = some (.slice (some ⟨gx, 0, none⟩) 1 cx)) :
    WB pp lg fb gx cx vp vs N L (fun b => X b ∨ b = pp ∨ b = fb) w6 :=
  ⟨⟨h1, later hb h.1, h2, later hb h.2.1⟩, ⟨.inr (.inl rfl), .inl h.2.2.1, .inr (.inr rfl), .inl h.2.2.2.1⟩, (h.2.2.2.2.1.ag (ag_below hX hb)).more (fun b hb => .inl hb), (h.2.2.2.2.2.ag (ag_below hX hb)).more (fun b hb => .inl hb)⟩
section
variable (lg lc gx cx : Nat) (a : Option Addr) (m c : Nat) (vp : Value) (N : List ByteArray) (L : List Cm) (X : Nat → Prop) (ra : Option Addr) (rc B : Nat) (st : Int) (w : World) (hN : N.length ≤ 1048576) (hL : 2 ≤ L.length) (hL2 : L.length ≤ 1048576) (h0 : ∀ c ∈ L, c.am = 0 ∧ c.N.length ≤ 1048576) (hX : ∀ b, X b → b < w.heap.size)
include hN hL hL2 h0 hX
theorem zs_one (hst : st = 0 ∨ st = 1) (hw : WA lg gx vp (.slice a m c) N L X w) (hrow : ∀ b, X b → some b ≠ (Value.slice ra 0 rc).ownBlock) (hr : ownC w B (.slice ra 0 rc) 0 []) (hB : B ≤ w.heap.size) :
    Calls Tryf.prog 7 #[.agg #[.pointer none, .slice a m c, .slice (some ⟨lg, 0, none⟩) 1 lc, .int .i32 0, .int .u8 0, .bool false], .slice (some ⟨gx, 0, none⟩) 1 cx, .slice ra 0 rc, .int .u8 st] w
      (fun e w' => ∃ v, e = .returned v ∧ (∃ h : L ≠ [], FCms (fun b => b < w'.heap.size) w' v (L.dropLast ++ [⟨if st = 1 then 0 else (L.getLast?.map (·.cb)).getD 0, 0, (L.getLast h).N ++ N⟩])) ∧ w.grownBy w' (Value.slice ra 0 rc).ownBlock) := by
  have hrb : ∀ x, (Value.slice ra 0 rc).ownBlock = some x → x < w.heap.size := fun x hx => (hr.lt x hx).2
  refine zs_any lg lc gx cx a m c 0 ra 0 rc st w (fun v w' => (∃ h : L ≠ [], FCms (fun b => b < w'.heap.size) w' v (L.dropLast ++ [⟨if st = 1 then 0 else (L.getLast?.map (·.cb)).getD 0, 0, (L.getLast h).N ++ N⟩])) ∧ w.grownBy w' (Value.slice ra 0 rc).ownBlock) ?_
  intro pp fb w6 hb h1 h2 h3 h4
  refine (sub1_any pp lg lc fb gx cx vp (.slice a m c) N L (fun b => X b ∨ b = pp ∨ b = fb) ra rc B st w6 hst hN hL hL2 h0 ?_ ?_ (wb_of hX hw hb h1 h2) (own_keep hr hb) (Nat.le_trans hB hb.size)).mono ?_
  · rintro b (h | rfl | rfl)
    · exact Nat.lt_of_lt_of_le (hX b h) hb.size
    · exact World.block_lt_of_cell? w6 _ h1
    · exact World.block_lt_of_cell? w6 _ h2
  · rintro b (h | rfl | rfl) e
    · exact hrow b h e
    · have := hrb _ e.symm; omega
    · have := hrb _ e.symm; omega
  · rintro e w7 ⟨v, rfl, hv, hg⟩
    exact ⟨v, rfl, hv, (grown_below hb _).trans hg⟩
theorem zs_is (cb : Int) (n : Nat) (ys : List Value) (hc : cb ≠ 0 ∨ (cb = 0 ∧ 0 < n)) (hn : n ≤ 1048576) (hw : WA lg gx vp (.slice a m c) N L X w) (hrow : ∀ b, X b → some b ≠ (Value.slice ra n rc).ownBlock) (hr : ownC w B (.slice ra n rc) n ys) (hB : B ≤ w.heap.size) :
    Calls Tryf.prog 7 #[.agg #[.pointer none, .slice a m c, .slice (some ⟨lg, 0, none⟩) 1 lc, .int .i32 0, .int .u8 cb, .bool false], .slice (some ⟨gx, 0, none⟩) 1 cx, .slice ra n rc, .int .u8 st] w
      (IsP L N cb n B (.slice ra n rc) ys w) := by
  have hrb : ∀ x, (Value.slice ra n rc).ownBlock = some x → x < w.heap.size := fun x hx => (hr.lt x hx).2
  refine (zs_any lg lc gx cx a m c cb ra n rc st w (fun v w' => IsP L N cb n B (.slice ra n rc) ys w (.returned v) w') ?_).mono ?_
  · intro pp fb w6 hb h1 h2 h3 h4
    refine (subis_any pp lg lc fb gx cx vp (.slice a m c) N L (fun b => X b ∨ b = pp ∨ b = fb) cb ra rc n B ys st w6 hc hn hN hL hL2 h0 ?_ ?_ (wb_of hX hw hb h1 h2) (own_keep hr hb) (Nat.le_trans hB hb.size)).mono ?_
    · rintro b (h | rfl | rfl)
      · exact Nat.lt_of_lt_of_le (hX b h) hb.size
      · exact World.block_lt_of_cell? w6 _ h1
      · exact World.block_lt_of_cell? w6 _ h2
    · rintro b (h | rfl | rfl) e
      · exact hrow b h e
      · have := hrb _ e.symm; omega
      · have := hrb _ e.symm; omega
    · rintro e w7 ⟨g, c', vq, rfl, h5, h6, h7, h8⟩
      refine ⟨_, rfl, g, c', vq, rfl, h5, (grown_below hb _).trans h6, h7.imp id (fun h => Nat.le_trans hb.size h), h8⟩
  · rintro e w7 ⟨v, rfl, h⟩
    exact h
end
end Go.Proofs.YtaiofdgiabmelaaFmt.Sb
