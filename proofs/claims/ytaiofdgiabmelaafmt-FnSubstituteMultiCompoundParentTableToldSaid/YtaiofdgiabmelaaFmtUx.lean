/-
  The law's walk up to the substitution.
-/
import Derived.Test.YtaiofdgiabmelaaFmtUw
import Derived.Test.YtaiofdgiabmelaaFmtUi
namespace Go.Proofs.YtaiofdgiabmelaaFmt.Sb
open Go.ChangeShapes Go.WideShapes Go.ChangeAt Go.RowKit Rg
set_option linter.unusedVariables false
set_option linter.unusedSimpArgs false
theorem tyGx : ∃ d, Tryf.prog.underlying 27 = some d ∧ d.isRow = true := ⟨_, Tryf.underlying27, rfl⟩
theorem szGx : (Tryf.prog.info? 27).map (·.size) = some 1 := by kernel_rfl
/-- a range of a row, by its cells -/
theorem own_sub {w : World} {B g c s n : Nat} {e : TypeId} {xs : List Value} (h : w.ownsRow B e s (.slice (some ⟨g, 0, none⟩) n c) n xs) (o : Nat) (cs : List Value) (hc : ∀ j, j < cs.length → xs[o + j]? = cs[j]?) (hl : o + cs.length ≤ n * s) : w.rangeAt g o cs := by
  intro j u hj
  have hj2 := (List.getElem?_eq_some_iff.1 hj).1
  rw [h.cellAt _ (by omega), hc j hj2]
  exact hj
set_option maxRecDepth 100000 in
set_option maxHeartbeats 16000000 in
theorem law59 (cb : Int) (am : Nat) (us u ur : Value) (st : Bool) (N : List ByteArray) (L Z : List Cm) (w : World) (ham : am ≤ 255) (hLa : ∀ c ∈ L, c.am ≤ 255) (hZa : ∀ c ∈ Z, c.am ≤ 255) (hs : NmV (Old w) w us N) (hu : CmV (Old w) w u L) (hr : CmV (Old w) w ur Z) :
    Calls Tryf.prog 3 #[.agg #[.int .u8 cb, .int .u8 (am : Nat), us], .agg #[u], ur, .bool st] w (fun e w' => e = .returned (.bool true) ∧ Below w.heap.size w w') := by
  obtain ⟨sa, sc, hse, -⟩ := id hs
  obtain ⟨ua, uc, hue, -⟩ := id hu
  obtain ⟨ra, rc, hre, -⟩ := id hr
  subst hse hue hre
  obtain ⟨n, hnn⟩ : ∃ n, n = N.length := ⟨_, rfl⟩
  obtain ⟨l, hll⟩ : ∃ n, n = L.length := ⟨_, rfl⟩
  obtain ⟨z, hzz⟩ : ∃ n, n = Z.length := ⟨_, rfl⟩
  rw [← hnn] at hs ⊢
  rw [← hll] at hu ⊢
  rw [← hzz] at hr ⊢
  have HK := Lib.hid (show ∀ x, Below w.heap.size w x → NmV (Old w) x (.slice sa n sc) N ∧ CmV (Old w) x (.slice ua l uc) L ∧ CmV (Old w) x (.slice ra z rc) Z ∧ ∀ b, Old w b → b < x.heap.size from fun x hx => ⟨hs.ag (ag_below (fun b h => h) hx), hu.ag (ag_below (fun b h => h) hx), hr.ag (ag_below (fun b h => h) hx), fun b h => Nat.lt_of_lt_of_le h hx.size⟩)
  have HA := Lib.hid (And.intro ham (And.intro hLa hZa))
  have HN := Lib.hid (And.intro hnn (And.intro hll hzz))
  clear hs hu hr ham hLa hZa hnn hll hzz
  obtain ⟨dI, hI, hI2⟩ := tyIc
  obtain ⟨dG, hG, hG2⟩ := tyGx
  go_enter Tryf.func3, Tryf.ntmps3
  go_upto_region 1 with fail
  have h1 : Below w.heap.size w (w.alloc (.cells #[.int .u8 cb, .int .u8 (am : Nat), .slice sa n sc] 24)) := (Below.refl _ _).alloc (Nat.le_refl _) _
  have r1 := rg_new w #[.int .u8 cb, .int .u8 (am : Nat), .slice sa n sc] 24
  have s1 : (w.alloc (.cells #[.int .u8 cb, .int .u8 (am : Nat), .slice sa n sc] 24)).heap.size = w.heap.size + 1 := World.size_alloc _ _
  generalize w.alloc _ = x1 at *
  have h2 : Below x1.heap.size x1 (x1.alloc (.cells #[.slice ua l uc] 27)) := (Below.refl _ _).alloc (Nat.le_refl _) _
  have r2 := rg_new x1 #[.slice ua l uc] 27
  rw [s1] at r2
  have r1' := rg_keep h2 r1
  have h12 := h1.trans (h2.mono h1.size)
  generalize x1.alloc _ = x2 at *
  obtain ⟨b1, hb1⟩ : ∃ b, b = w.heap.size := ⟨_, rfl⟩
  obtain ⟨b2, hb2⟩ : ∃ b, b = b1 + 1 := ⟨_, rfl⟩
  rw [← hb1, ← hb2]
  rw [← hb1] at r2 r1'
  rw [← hb2] at r2
  have H2 := Lib.hid (show x2.rangeAt b1 0 [.int .u8 cb, .int .u8 (am : Nat), .slice sa n sc] ∧ x2.rangeAt b2 0 [.slice ua l uc] ∧ Below w.heap.size w x2 from ⟨r1', r2, h12⟩)
  clear h1 r1 s1 h2 h12 hb1 hb2 r2 r1'
  go_wp2_with (first
    | (refine wpList_load_mid rfl 24 _ rfl b1 0 rfl [.int .u8 cb, .int .u8 (am : Nat), .slice sa n sc] dI H2.out.1 hI hI2 szIc ?_)
    | (refine wpList_load_mid rfl 27 _ rfl b2 0 rfl [.slice ua l uc] dG H2.out.2.1 hG hG2 szGx ?_))
  have hK := HK.out x2 H2.out.2.2
  refine (zbb_any (Old w) cb am (.slice sa n sc) (.slice ua l uc) (.slice ra z rc) st N L Z x2 hK.2.2.2 hK.1 hK.2.1 hK.2.2.1).mono ?_
  clear hK
  rintro e x3 ⟨b, rfl, hq, hb⟩
  have H3 := Lib.hid (show x3.rangeAt b1 0 [.int .u8 cb, .int .u8 (am : Nat), .slice sa n sc] ∧ x3.rangeAt b2 0 [.slice ua l uc] ∧ Below w.heap.size w x3 from ⟨rg_keep hb H2.out.1, rg_keep hb H2.out.2.1, H2.out.2.2.trans (hb.mono H2.out.2.2.size)⟩)
  clear hb H2
  cases b
  case false =>
    as_aux_lemma =>
    go_wp2_with fail
    go_ret
    exact ⟨rfl, H3.out.2.2⟩
  have HQ := Lib.hid (show ZbQ N L Z ∧ (∀ c ∈ L, c.am ≤ 255 ∧ c.N.length ≤ 1048576) ∧ (∀ c ∈ Z, c.am ≤ 255 ∧ c.N.length ≤ 1048576) from ⟨hq rfl, fun c hc => ⟨HA.out.2.1 c hc, (hq rfl).2.1.2 c hc⟩, fun c hc => ⟨HA.out.2.2 c hc, (hq rfl).2.2.2 c hc⟩⟩)
  clear hq
  go_wp2_with (first
    | (refine wpList_load_mid rfl 24 _ rfl b1 0 rfl [.int .u8 cb, .int .u8 (am : Nat), .slice sa n sc] dI H3.out.1 hI hI2 szIc ?_)
    | (refine wpList_load_mid rfl 27 _ rfl b2 0 rfl [.slice ua l uc] dG H3.out.2.1 hG hG2 szGx ?_))
  have hK := HK.out x3 H3.out.2.2
  refine (bsm_any (Old w) cb am (.slice sa n sc) (.slice ua l uc) (.slice ra z rc) N L Z x3 HQ.out.1.1 HQ.out.1.2.1.1 HQ.out.1.2.2.1 HQ.out.2.1 HQ.out.2.2 hK.2.2.2 hK.1 hK.2.1 hK.2.2.1).mono ?_
  clear hK
  rintro e x4 ⟨⟨s, rfl⟩, hb⟩
  have H4 := Lib.hid (show x4.rangeAt b1 0 [.int .u8 cb, .int .u8 (am : Nat), .slice sa n sc] ∧ x4.rangeAt b2 0 [.slice ua l uc] ∧ Below w.heap.size w x4 from ⟨rg_keep hb H3.out.1, rg_keep hb H3.out.2.1, H3.out.2.2.trans (hb.mono H3.out.2.2.size)⟩)
  clear hb H3
  by_cases hs1 : (1048576 : Int) < s
  · as_aux_lemma =>
    go_wp2_with fail
    go_ret
    exact ⟨rfl, H4.out.2.2⟩
  go_wp2_with (first
    | (refine wpList_load_mid rfl 24 _ rfl b1 0 rfl [.int .u8 cb, .int .u8 (am : Nat), .slice sa n sc] dI H4.out.1 hI hI2 szIc ?_)
    | (refine wpList_load_mid rfl 27 _ rfl b2 0 rfl [.slice ua l uc] dG H4.out.2.1 hG hG2 szGx ?_))
  clear hs1
  have hK := HK.out x4 H4.out.2.2
  refine (prm_any (Old w) cb am (.slice sa n sc) (.slice ua l uc) L x4 HQ.out.1.2.1.1 hK.2.2.2 hK.2.1 ⟨_, _, _, rfl⟩).mono ?_
  clear hK
  rintro e x5 ⟨b, rfl, hp, hb⟩
  have H5 := Lib.hid (show x5.rangeAt b1 0 [.int .u8 cb, .int .u8 (am : Nat), .slice sa n sc] ∧ x5.rangeAt b2 0 [.slice ua l uc] ∧ Below w.heap.size w x5 from ⟨rg_keep hb H4.out.1, rg_keep hb H4.out.2.1, H4.out.2.2.trans (hb.mono H4.out.2.2.size)⟩)
  clear hb H4
  cases b
  case false =>
    as_aux_lemma =>
    go_wp2_with fail
    go_ret
    exact ⟨rfl, H5.out.2.2⟩
  have HP := Lib.hid (hp rfl)
  clear hp
  go_upto_if 33 with fail
  go_cut [9] (fun v wx => v = .int .u8 (if st = true then 1 else 0) ∧ Hid (wx = x5))
  case first =>
    cases st with
    | false =>
      go_wp2_with fail
      go_meet
      exact ⟨rfl, Lib.hid rfl⟩
    | true =>
      go_wp2_with fail
      go_meet
      exact ⟨rfl, Lib.hid rfl⟩
  case rest =>
  obtain ⟨rfl, HW⟩ := hcut
  have hwc := HW.out
  rw [hwc]
  clear hwc HW
  obtain ⟨sv, hsv⟩ : ∃ sv : Int, sv = if st = true then 1 else 0 := ⟨_, rfl⟩
  have HSV := Lib.hid hsv
  rw [← hsv]
  clear hsv
  have HS0 := Lib.hid (show x5.drew.rangeAt b1 0 [.int .u8 cb, .int .u8 (am : Nat), .slice sa n sc] ∧ x5.drew.rangeAt b2 0 [.slice ua l uc] from ⟨rg_keep ((Below.refl _ _).drew) H5.out.1, rg_keep ((Below.refl _ _).drew) H5.out.2.1⟩)
  have HD := Lib.hid (show Below w.heap.size w x5.drew from H5.out.2.2.drew)
  clear H5
  go_upto_region 10 with fail
  refine Pl.wp_region_split (fun w' => w'.rangeAt b1 0 [.int .u8 cb, .int .u8 (am : Nat), .slice sa n sc] ∧ w'.rangeAt b2 0 [.slice ua l uc]) 8 (by kernel_rfl) (by kernel_rfl) ?_
  simp only [List.take_succ_cons, List.take_zero]
  have hHeld := HS0.out
  refine Pl.take_l (i := 0) (v := .agg #[.int .u8 cb, .int .u8 (am : Nat), .slice sa n sc]) rfl (by kernel_rfl) (by kernel_rfl) (by kernel_rfl) (fun _ _ _ h => h) rfl (fun w hSw => ex_load 24 (.tmp 4) rfl b1 0 rfl ([.int .u8 cb, .int .u8 (am : Nat), .slice sa n sc]) dI (hSw.1) hI hI2 szIc) hHeld ?_
  try simp only [Act.put, List.setIfInBounds_toArray, List.set_cons_zero, List.set_cons_succ]
  refine Pl.take_l (i := 2) (v := .agg #[.slice ua l uc]) rfl (by kernel_rfl) (by kernel_rfl) (by kernel_rfl) (fun _ _ _ h => h) rfl (fun w hSw => ex_load 27 (.tmp 5) rfl b2 0 rfl ([.slice ua l uc]) dG (hSw.2) hG hG2 szGx) hHeld ?_
  try simp only [Act.put, List.setIfInBounds_toArray, List.set_cons_zero, List.set_cons_succ]
  refine Pl.take_l (i := 5) (v := ?v1) rfl (by kernel_rfl) (by kernel_rfl) (by kernel_rfl) (fun _ _ _ h => h) rfl ?hy1 hHeld ?rest1
  case hy1 => (intro w hSw; (try dsimp only at hSw); (try obtain ⟨_, _⟩ := hSw); go_simp <;> (try with_reducible rfl))
  try simp only [Act.put, List.setIfInBounds_toArray, List.set_cons_zero, List.set_cons_succ]
  refine Pl.take_l (i := 7) (v := ?v2) rfl (by kernel_rfl) (by kernel_rfl) (by kernel_rfl) (fun _ _ _ h => h) rfl ?hy2 hHeld ?rest2
  case hy2 => (intro w hSw; (try dsimp only at hSw); (try obtain ⟨_, _⟩ := hSw); go_simp <;> (try with_reducible rfl))
  try simp only [Act.put, List.setIfInBounds_toArray, List.set_cons_zero, List.set_cons_succ]
  generalize World.drew _ = wd at *
  refine Pl.alone_l (i := 1) (by kernel_rfl) rfl (fun K hK => ?_)
  go_simp; refine (bc_any (Old w) cb am (.slice sa n sc) N wd HA.out.1 HQ.out.1.1 (HK.out wd HD.out).2.2.2 (HK.out wd HD.out).1).mono ?_; rintro e wA ⟨va, vn, vc, na, nc, rfl, hf, hb⟩; have HBA := Lib.hid (And.intro hf (And.intro hb (HD.out.trans (hb.mono HD.out.size)))); clear hf hb; dsimp only
  refine hK.out _ _ (⟨rg_keep HBA.out.2.1 HS0.out.1, rg_keep HBA.out.2.1 HS0.out.2⟩) (fun hHeld2 => ?_)
  clear hK K hHeld
  have hHeld := hHeld2
  clear hHeld2
  try simp only [Act.put, List.setIfInBounds_toArray, List.set_cons_zero, List.set_cons_succ]
  refine Pl.alone_l (i := 3) (by kernel_rfl) rfl (fun K hK => ?_)
  go_simp; refine (bcx_any (Old w) (.slice ua l uc) L wA HQ.out.1.2.1.1 HQ.out.2.1 (HK.out wA HBA.out.2.2).2.2.2 (HK.out wA HBA.out.2.2).2.1).mono ?_; rintro e wB ⟨pa, pc, rfl, hf, hb⟩; rw [← HN.out.2.1] at hf ⊢; have HBB := Lib.hid (And.intro hf (And.intro hb (HBA.out.2.2.trans (hb.mono HBA.out.2.2.size)))); clear hf hb; dsimp only
  refine hK.out _ _ (⟨rg_keep HBB.out.2.1 (rg_keep HBA.out.2.1 HS0.out.1), rg_keep HBB.out.2.1 (rg_keep HBA.out.2.1 HS0.out.2)⟩) (fun hHeld2 => ?_)
  clear hK K hHeld
  have hHeld := hHeld2
  clear hHeld2
  try simp only [Act.put, List.setIfInBounds_toArray, List.set_cons_zero, List.set_cons_succ]
  have HSB := Lib.hid (show wB.rangeAt b1 0 [.int .u8 cb, .int .u8 (am : Nat), .slice sa n sc] ∧ wB.rangeAt b2 0 [.slice ua l uc] from hHeld)
  refine Pl.two_l (i := 4) (j := 6) (fun v w' => ∃ gx, v = .slice (some ⟨gx, 0, none⟩) 1 1 ∧ w'.cell? ⟨gx, 0, none⟩ = some (.slice pa l pc) ∧ gx = wB.heap.size ∧ Below wB.heap.size wB w') (fun u w' => ∃ ca cc, u = .slice ca z cc ∧ FarCms wB.heap.size w' (.slice ca z cc) Z ∧ Below wB.heap.size wB w')
    (fun v u w' => ∃ gx ca cc, v = .slice (some ⟨gx, 0, none⟩) 1 1 ∧ u = .slice ca z cc ∧ w'.cell? ⟨gx, 0, none⟩ = some (.slice pa l pc) ∧ FarCms wB.heap.size w' (.slice ca z cc) Z ∧ Below wB.heap.size wB w' ∧ wB.heap.size ≤ gx ∧ some gx ≠ (Value.slice ca z cc).ownBlock) (by kernel_rfl) rfl rfl (by kernel_rfl) (by kernel_rfl) (by decide) (by intro d h; cases h; simp) ?_ ?_ ?_ ?_ ?_
  case refine_1 =>
    intro K hK
    have hal : Below wB.heap.size wB (wB.alloc (.cells #[.slice pa l pc] 44)) := (Below.refl _ _).alloc (Nat.le_refl _) _
    refine step_bs1 rfl 46 (.tmp 37) rfl _ _ _ ?hx (bs_cpl pa l pc wB) ?_
    case hx => (show _ = _; rfl)
    exact hK.out _ _ ⟨rg_keep hal HSB.out.1, rg_keep hal HSB.out.2⟩ ⟨_, rfl, rg_new wB #[.slice pa l pc] _ 0 _ rfl, rfl, hal⟩
  case refine_2 =>
    rintro v w1 hS ⟨gx, rfl, hc, hg, hb⟩ K hK
    have HG := Lib.hid hg
    clear hg
    have hb1 := HBB.out.2.2.trans (hb.mono HBB.out.2.2.size)
    simp only [Act.put, List.setIfInBounds_toArray, List.set_cons_zero, List.set_cons_succ]
    go_simp
    refine (bcs_far (Old w) (.slice ra z rc) Z w1 HQ.out.1.2.2.1 HQ.out.2.2 (HK.out w1 hb1).2.2.2 (HK.out w1 hb1).2.2.1).mono ?_
    rintro e w2 ⟨ca, cc, rfl, hf, hb2⟩
    rw [← HN.out.2.2] at hf ⊢
    dsimp only
    refine hK.out _ _ ⟨rg_keep hb2 hS.1, rg_keep hb2 hS.2⟩ ⟨gx, ca, cc, rfl, rfl, later hb2 hc, hf.low hb.size, hb.trans (hb2.mono hb.size), Nat.le_of_eq HG.out.symm, fun e => ?_⟩
    have h1 := World.block_lt_of_cell? w1 _ hc
    obtain ⟨R, -, hro, -⟩ := hf
    have h2 := (hro.lt gx e.symm).1
    simp at h1
    omega
  case refine_3 =>
    intro K hK
    go_simp
    refine (bcs_far (Old w) (.slice ra z rc) Z wB HQ.out.1.2.2.1 HQ.out.2.2 (HK.out wB HBB.out.2.2).2.2.2 (HK.out wB HBB.out.2.2).2.2.1).mono ?_
    rintro e w2 ⟨ca, cc, rfl, hf, hb2⟩
    rw [← HN.out.2.2] at hf ⊢
    dsimp only
    exact hK.out _ _ ⟨rg_keep hb2 HSB.out.1, rg_keep hb2 HSB.out.2⟩ ⟨ca, cc, rfl, hf, hb2⟩
  case refine_4 =>
    rintro u w1 hS ⟨ca, cc, rfl, hf, hb⟩ K hK
    have hal : Below w1.heap.size w1 (w1.alloc (.cells #[.slice pa l pc] 44)) := (Below.refl _ _).alloc (Nat.le_refl _) _
    refine step_bs1 rfl 46 (.tmp 37) rfl _ _ _ ?hx (bs_cpl pa l pc w1) ?_
    case hx => (show _ = _; rfl)
    refine hK.out _ _ ⟨rg_keep hal hS.1, rg_keep hal hS.2⟩ ⟨_, ca, cc, rfl, rfl, rg_new w1 #[.slice pa l pc] _ 0 _ rfl, hf.keep hal, hb.trans (hal.mono hb.size), hb.size, fun e => ?_⟩
    obtain ⟨R, -, hro, -⟩ := hf
    have h2 := (hro.lt _ e.symm).2
    omega
  case refine_5 =>
  rintro v u wC hS ⟨gx, ca, cc, rfl, rfl, hcx, hfar, hbC, hgx, hgr⟩
  have HC := Lib.hid (And.intro hS (And.intro hcx (And.intro hfar (And.intro hbC (And.intro hgx hgr)))))
  have HB12 := Lib.hid (show b1 < wB.heap.size ∧ b2 < wB.heap.size from ⟨rg_blk HSB.out.1, rg_blk HSB.out.2⟩)
  clear hHeld HS0 HSB
  have hHeld := hS
  clear hcx hfar hbC hgx hgr hS
  simp only [Act.put, List.setIfInBounds_toArray, List.set_cons_zero, List.set_cons_succ]
  refine wpAnyH_done (by kernel_rfl) ?_ _
  refine Pl.behind_normal (by decide) ?_
  simp only [List.drop_succ_cons, List.drop_zero]
  clear hHeld
  go_wp2_with fail
  have hC := HC.out
  have hbelC : Below w.heap.size w wC := HBB.out.2.2.trans (hC.2.2.2.1.mono HBB.out.2.2.size)
  have e1 := HP.out.1
  subst e1
  obtain ⟨hsub, an', cn', hvn, hloc⟩ := HBA.out.1
  dsimp only at hsub hvn hloc
  simp only [Value.slice.injEq] at hvn
  obtain ⟨rfl, -, rfl⟩ := hvn
  obtain ⟨lg, rfl, hlgX, hlgc⟩ := hloc 0 (by decide)
  have hlow : ∀ b, b < wB.heap.size → b < wC.heap.size ∧ some b ≠ (Value.slice ca z cc).ownBlock := fun b hb => ⟨Nat.lt_of_lt_of_le hb hC.2.2.2.1.size, fun e => by
    obtain ⟨R, -, hro, -⟩ := hC.2.2.1
    have := (hro.lt b e.symm).1
    omega⟩
  have hWA : WA lg gx (.slice pa l pc) (.slice va vn vc) N L (fun b => b < wC.heap.size ∧ some b ≠ (Value.slice ca z cc).ownBlock) wC :=
    ⟨later hC.2.2.2.1 (later HBB.out.2.1 hlgc), hC.2.1, hlow lg (Nat.lt_of_lt_of_le hlgX.2 HBB.out.2.1.size), ⟨World.block_lt_of_cell? wC _ hC.2.1, hC.2.2.2.2.2⟩,
      (hsub.ag (ag_below (fun b h => h.2) (HBB.out.2.1.trans (hC.2.2.2.1.mono HBB.out.2.1.size)))).more (fun b h => hlow b (Nat.lt_of_lt_of_le h.2 HBB.out.2.1.size)),
      (HBB.out.1.ag (ag_below (fun b h => h.2) hC.2.2.2.1)).more (fun b h => hlow b h.2)⟩
  have hrowlo : ∀ k, (Value.slice ca z cc).ownBlock = some k → wB.heap.size ≤ k := fun k hk => by
    obtain ⟨R, -, hro, -⟩ := hC.2.2.1
    exact (hro.lt k hk).1
  have HCL := Lib.hid (And.intro hWA (And.intro hlow (And.intro hrowlo hbelC)))
  have hst : sv = 0 ∨ sv = 1 := by rw [HSV.out]; cases st <;> simp
  have HST := Lib.hid hst
  have h00 : ∀ c ∈ L, c.am = 0 ∧ c.N.length ≤ 1048576 := fun c hc => ⟨HP.out.2.2 c hc, (HQ.out.2.1 c hc).2⟩
  have HZ0 := Lib.hid h00
  clear hC hsub hloc hlgX hlgc hlow hWA hrowlo hbelC hst h00 HBA
  obtain ⟨l1, hl1⟩ : ∃ l1, l = l1 + 1 := ⟨l - 1, by have := HP.out.2.1; have := HN.out.2.1; omega⟩
  have hlb : l ≤ 1048576 := by have := HQ.out.1.2.1.1; have := HN.out.2.1; omega
  have hwl : IntKind.i64.wrap ((l : Int) - 1) = (l1 : Int) := by
    simp [IntKind.wrap, IntKind.bits, IntKind.signed]
    omega
  have HL1 := Lib.hid (And.intro hl1 hlb)
  clear hl1 hlb
  by_cases hz : cb = 0 ∧ z = 0
  · as_aux_lemma =>
    obtain ⟨hcb, hz0⟩ := hz
    subst hcb
    subst hz0
    refine (zs_one lg nc gx 1 va vn vc (.slice pa l pc) N L _ ca cc wB.heap.size sv wC HQ.out.1.1 HP.out.2.1 HQ.out.1.2.1.1 HZ0.out (fun b h => h.1) HST.out HCL.out.1 (fun b h => h.2) (by
      obtain ⟨R, h1, h2, -⟩ := HC.out.2.2.1
      have hz := HN.out.2.2
      have hR : R = [] := List.eq_nil_of_length_eq_zero (by rw [← List.length_map (f := (·.m)), h1]; exact hz.symm)
      subst hR
      rw [← hz] at h2
      exact h2) HC.out.2.2.2.1.size).mono ?_
    rintro e wD ⟨v, rfl, ⟨hne, hv⟩, hg⟩
    -- <part
    obtain ⟨R, hro, hR, hRX, hRm⟩ := hv
    obtain ⟨oa, oc, rfl⟩ := own_slice hro
    have hRl : R.length = l := by
      have h1 := congrArg List.length hR
      have h2 := HN.out.2.1
      have h3 := HL1.out.1
      simp at h1
      omega
    have hlt1 : l1 < R.length := by have := HL1.out.1; omega
    obtain ⟨og, ocg, hve, -, -⟩ := hro.form (by omega)
    simp only [Value.slice.injEq] at hve
    obtain ⟨rfl, hx1, rfl⟩ := hve
    clear hx1
    rw [hRl]
    have hbD : Below w.heap.size w wD := HCL.out.2.2.2.grown hg HCL.out.2.2.2.size (fun k hk => Nat.le_trans HBB.out.2.2.size (HCL.out.2.2.1 k hk))
    have hb1D := rg_ag (hg.block b1 (HCL.out.2.1 b1 HB12.out.1).1 (HCL.out.2.1 b1 HB12.out.1).2) HC.out.1.1
    have hb2D := rg_ag (hg.block b2 (HCL.out.2.1 b2 HB12.out.2).1 (HCL.out.2.1 b2 HB12.out.2).2) HC.out.1.2
    have HD1 := Lib.hid (And.intro hb1D (And.intro hb2D hbD))
    have HR := Lib.hid (And.intro hro (And.intro hR (And.intro hRm (And.intro hRl hlt1))))
    have c10 := hb1D 0 _ rfl
    have c12 := hb1D 2 _ rfl
    have c20 := hb2D 0 _ rfl
    simp only [Nat.zero_add] at c10 c12 c20
    have ql0 : (0 : Int) ≤ l1 := by omega
    have qlb : (l : Int) ≤ 1048576 := by have := HL1.out.2; omega
    have ql1 : (l1 : Int) < (l : Nat) := by have := HL1.out.1; omega
    clear hro hR hRX hRm hRl hlt1 hg hb1D hb2D hbD HC HCL HBB
    obtain ⟨dC, hC, hC2⟩ := tyCmp
    go_upto_block 0 with fail
    clear c10 c12 c20
    refine wp_block ?_
    go_loopw [12] (fun i wr => ∃ (k : Nat), k ≤ l1 ∧ i = .int .i64 (k : Nat) ∧ Hid (Below wD.heap.size wD wr)) (fun i _ => l1 - (intOf i).toNat)
    case atStart => exact ⟨0, Nat.zero_le _, rfl, Lib.hid (Below.refl _ _)⟩
    case round =>
    obtain ⟨k, hk, rfl, HV⟩ := hrel
    have hbx : Below w.heap.size w wr := HD1.out.2.2.trans (HV.out.mono HD1.out.2.2.size)
    have e2 := later HV.out (HD1.out.2.1 0 _ rfl)
    rw [Nat.zero_add] at e2
    by_cases hlt : k < l1
    · as_aux_lemma =>
      have q0 : (0 : Int) ≤ k := by omega
      have q1 : (k : Int) < (l1 : Nat) := by omega
      have q2 : (k : Int) < (l : Nat) := by omega
      have kL : k < L.length := by have := HN.out.2.1; have := HL1.out.1; omega
      have kR : k < R.length := by have := HR.out.2.2.2; omega
      obtain ⟨ua', uc', hue', hn⟩ := (HK.out wr hbx).2.1
      simp only [Value.slice.injEq] at hue'
      obtain ⟨rfl, -, rfl⟩ := hue'
      obtain ⟨ug, uo, uu, rfl, hXg, hrg, hnm⟩ := hn k kL
      have h00 := HQ.out.2.1 _ (List.getElem_mem kL)
      have r0 := own_range (f := Cr.cells) (s := 6) (L := R) (own_keep HR.out.1 HV.out) (fun x => rfl) kR
      have hfm := HR.out.2.2.1 _ (List.getElem_mem kR)
      have hm : (R[k]).m = L[k] := by
        have h := List.getElem_of_eq HR.out.2.1 (i := k) (by simpa using kR)
        rw [List.getElem_append_left (by have := HN.out.2.1; have := HL1.out.1; simp; omega)] at h
        simpa using h
      obtain ⟨r, hr⟩ : ∃ r, r = R[k] := ⟨_, rfl⟩
      rw [← hr] at r0 hfm hm
      rw [← hm] at hrg hnm h00
      clear hr hm
      obtain ⟨hsub, an, cn, hvn, -⟩ := hfm.ag (ag_below (fun b h => h) HV.out)
      obtain ⟨vs, vn', cbk, amk, Nk⟩ := r
      dsimp only at hsub hvn h00 hrg hnm r0
      subst hvn
      obtain ⟨sak, sck, rfl, hsa⟩ := fsub_at hsub
      have HDD := Lib.hid (show CeV (Old w) wr.drew sak uu Nk ∧ Below w.heap.size w wr.drew ∧ Below wD.heap.size wD wr.drew from ⟨⟨hsa.keep ((Below.refl _ _).drew), hnm.ag (fun b hb => ((Below.refl wr.heap.size wr).drew).block b (Nat.lt_of_lt_of_le hb hbx.size))⟩, hbx.drew, HV.out.drew⟩)
      have HNN := Lib.hid h00
      have HS0 := Lib.hid (show wr.drew.cell? ⟨b2, 0, none⟩ = some (.slice (some ⟨ug, uo, none⟩) l uc) ∧ wr.drew.rangeAt og (k * 6) (cmc (.slice sak Nk.length sck) (.slice an amk cn) cbk) ∧ wr.drew.rangeAt ug (uo + k * 3) [.int .u8 cbk, .int .u8 (amk : Nat), uu] from
        ⟨later ((Below.refl _ _).drew) e2, rg_keep ((Below.refl _ _).drew) r0, rg_keep ((Below.refl _ _).drew) hrg⟩)
      clear hrg hnm hXg h00 hbx r0 hfm hsub hsa e2
      go_upto_region 18 with fail
      refine Pl.wp_region_split (fun w' => w'.cell? ⟨b2, 0, none⟩ = some (.slice (some ⟨ug, uo, none⟩) l uc) ∧ w'.rangeAt og (k * 6) (cmc (.slice sak Nk.length sck) (.slice an amk cn) cbk) ∧ w'.rangeAt ug (uo + k * 3) [.int .u8 cbk, .int .u8 (amk : Nat), uu]) 9 (by kernel_rfl) (by kernel_rfl) ?_
      simp only [List.take_succ_cons, List.take_zero]
      have hHeld := HS0.out
      refine Pl.take_l (i := 0) (v := ?v1001) rfl (by kernel_rfl) (by kernel_rfl) (by kernel_rfl) (fun _ _ _ h => h) rfl ?hy1001 hHeld ?rest1001
      case hy1001 => (intro w hSw; (try dsimp only at hSw); (obtain ⟨_, _, _⟩ := hSw); go_simp <;> (try with_reducible rfl))
      try simp only [Act.put, List.setIfInBounds_toArray, List.set_cons_zero, List.set_cons_succ]
      refine Pl.take_l (i := 1) (v := ?v1002) rfl (by kernel_rfl) (by kernel_rfl) (by kernel_rfl) (fun _ _ _ h => h) rfl ?hy1002 hHeld ?rest1002
      case hy1002 => (intro w hSw; (try dsimp only at hSw); (obtain ⟨_, _, _⟩ := hSw); go_simp <;> (try with_reducible rfl))
      try simp only [Act.put, List.setIfInBounds_toArray, List.set_cons_zero, List.set_cons_succ]
      refine Pl.take_l (i := 2) (v := ?v1003) rfl (by kernel_rfl) (by kernel_rfl) (by kernel_rfl) (fun _ _ _ h => h) rfl ?hy1003 hHeld ?rest1003
      case hy1003 => (intro w hSw; (try dsimp only at hSw); (obtain ⟨_, _, _⟩ := hSw); go_simp <;> (try with_reducible rfl))
      try simp only [Act.put, List.setIfInBounds_toArray, List.set_cons_zero, List.set_cons_succ]
      refine Pl.take_l (i := 3) (v := .agg #[.pointer none, .slice sak Nk.length sck, .slice an amk cn, .int .i32 0, .int .u8 cbk, .bool false]) rfl (by kernel_rfl) (by kernel_rfl) (by kernel_rfl) (fun _ _ _ h => h) rfl (fun w hSw => ex_load 41 (.tmp 66) rfl og (k * 6) rfl (cmc (.slice sak Nk.length sck) (.slice an amk cn) cbk) dC (hSw.2.1) hC hC2 szCmp) hHeld ?_
      try simp only [Act.put, List.setIfInBounds_toArray, List.set_cons_zero, List.set_cons_succ]
      refine Pl.take_l (i := 4) (v := ?v1004) rfl (by kernel_rfl) (by kernel_rfl) (by kernel_rfl) (fun _ _ _ h => h) rfl ?hy1004 hHeld ?rest1004
      case hy1004 => (intro w hSw; (try dsimp only at hSw); (obtain ⟨_, _, _⟩ := hSw); go_simp <;> (try with_reducible rfl))
      try simp only [Act.put, List.setIfInBounds_toArray, List.set_cons_zero, List.set_cons_succ]
      refine Pl.take_l (i := 5) (v := ?v1005) rfl (by kernel_rfl) (by kernel_rfl) (by kernel_rfl) (fun _ _ _ h => h) rfl ?hy1005 hHeld ?rest1005
      case hy1005 => (intro w hSw; (try dsimp only at hSw); (obtain ⟨_, _, _⟩ := hSw); go_simp <;> (try with_reducible rfl))
      try simp only [Act.put, List.setIfInBounds_toArray, List.set_cons_zero, List.set_cons_succ]
      refine Pl.take_l (i := 6) (v := ?v1006) rfl (by kernel_rfl) (by kernel_rfl) (by kernel_rfl) (fun _ _ _ h => h) rfl ?hy1006 hHeld ?rest1006
      case hy1006 => (intro w hSw; (try dsimp only at hSw); (obtain ⟨_, _, _⟩ := hSw); go_simp <;> (try with_reducible rfl))
      try simp only [Act.put, List.setIfInBounds_toArray, List.set_cons_zero, List.set_cons_succ]
      refine Pl.take_l (i := 7) (v := ?v1007) rfl (by kernel_rfl) (by kernel_rfl) (by kernel_rfl) (fun _ _ _ h => h) rfl ?hy1007 hHeld ?rest1007
      case hy1007 => (intro w hSw; (try dsimp only at hSw); (obtain ⟨_, _, _⟩ := hSw); go_simp <;> (try with_reducible rfl))
      try simp only [Act.put, List.setIfInBounds_toArray, List.set_cons_zero, List.set_cons_succ]
      refine Pl.take_l (i := 8) (v := .agg #[.int .u8 cbk, .int .u8 (amk : Nat), uu]) rfl (by kernel_rfl) (by kernel_rfl) (by kernel_rfl) (fun _ _ _ h => h) rfl (fun w hSw => ex_load 24 (.tmp 71) rfl ug (uo + k * 3) rfl ([.int .u8 cbk, .int .u8 (amk : Nat), uu]) dI (hSw.2.2) hI hI2 szIc) hHeld ?_
      try simp only [Act.put, List.setIfInBounds_toArray, List.set_cons_zero, List.set_cons_succ]
      generalize World.drew _ = wd at *
      refine wpAnyH_done (by kernel_rfl) ?_ _
      refine Pl.behind_normal (by decide) ?_
      simp only [List.drop_succ_cons, List.drop_zero]
      clear hHeld
      go_wp2_with fail
      refine (ce_any (Old w) sak an sck amk cn cbk uu Nk wd HNN.out.1 HNN.out.2 (HK.out wd HDD.out.2.1).2.2.2 HDD.out.1).mono ?_
      rintro e w6 ⟨rfl, hf⟩
      have HF := Lib.hid hf
      clear hf
      go_wp2_with fail
      exact ⟨⟨k + 1, by omega, by go_num, Lib.hid (HDD.out.2.2.trans (HF.out.mono HDD.out.2.2.size))⟩, by simp [intOf]; omega⟩
    · as_aux_lemma =>
      obtain rfl : l1 = k := by omega
      have ql2 : ¬ ((l1 : Int) < (l1 : Int)) := by omega
      clear hlt hk
      have l1L : l1 < L.length := by have := HN.out.2.1; have := HL1.out.1; omega
      have l1R : l1 < R.length := HR.out.2.2.2.2
      obtain ⟨ua', uc', hue', hn⟩ := (HK.out wr hbx).2.1
      simp only [Value.slice.injEq] at hue'
      obtain ⟨rfl, -, rfl⟩ := hue'
      obtain ⟨ug, uo, uu, rfl, hXg, hrg, hnm⟩ := hn l1 l1L
      have hidx : l1 = L.length - 1 := by have := HN.out.2.1; have := HL1.out.1; omega
      have hlast : L.getLast hne = L[l1] := by
        rw [List.getLast_eq_getElem]
        simp only [hidx]
      have hlq : (L.getLast?.map (·.cb)).getD 0 = (L[l1]).cb := by
        rw [List.getLast?_eq_some_getLast hne, hlast]
        rfl
      have hm : (R[l1]).m = ⟨if sv = 1 then 0 else (L[l1]).cb, 0, (L[l1]).N ++ N⟩ := by
        have h := List.getElem_of_eq HR.out.2.1 (i := l1) (by simpa using l1R)
        rw [List.getElem_append_right (by simp; omega)] at h
        have h2 : (R[l1]).m = ⟨if sv = 1 then 0 else (L.getLast?.map (·.cb)).getD 0, 0, (L.getLast hne).N ++ N⟩ := by simpa using h
        rw [hlq, hlast] at h2
        exact h2
      have hfm := HR.out.2.2.1 _ (List.getElem_mem l1R)
      have r0 := own_range (f := Cr.cells) (s := 6) (L := R) (own_keep HR.out.1 HV.out) (fun x => rfl) l1R
      have h00 := HQ.out.2.1 _ (List.getElem_mem l1L)
      generalize R[l1] = r at *
      generalize L[l1] = q at *
      clear hidx hlast hlq l1L l1R hXg
      obtain ⟨cbl, aml, Nl⟩ := q
      obtain ⟨hsub, an, cn, hvn, -⟩ := hfm.ag (ag_below (fun b h => h) HV.out)
      obtain ⟨vs, vn', mr⟩ := r
      dsimp only at hm hsub hvn h00 hrg hnm r0
      subst hm hvn
      obtain ⟨ga, gc, rfl, hsa⟩ := fsub_at hsub
      obtain ⟨la, lc, hle, -⟩ := id hnm
      subst hle
      obtain ⟨wv, hwv⟩ : ∃ wv : Int, wv = if sv = 1 then 0 else cbl := ⟨_, rfl⟩
      have HWV := Lib.hid hwv
      dsimp only at hsub r0
      rw [← hwv] at r0
      obtain ⟨nl, hnl⟩ : ∃ n, n = Nl.length := ⟨_, rfl⟩
      obtain ⟨sl, hsl⟩ : ∃ n, n = (Nl ++ N).length := ⟨_, rfl⟩
      rw [← hnl] at hrg hnm
      have HNL := Lib.hid (And.intro hnl (And.intro hsl h00.2))
      have r0' : wr.rangeAt og (l1 * 6) (cmc (.slice ga sl gc) (.slice an 0 cn) wv) := by rw [hsl]; exact r0
      have HRG := Lib.hid (And.intro hrg (And.intro r0' (And.intro hnm hsa)))
      clear hrg r0 r0' hnm hsa hsub hfm hwv hnl hsl hn h00
      have hone : (#[Value.int .u8 cbl, .int .u8 (aml : Nat), .slice la nl lc]).all (·.oneCell') = true := by simp [Value.oneCell']
      go_upto_region 21 with (first
        | (refine wpList_load_mid rfl 24 _ rfl ug (uo + l1 * 3) rfl [.int .u8 cbl, .int .u8 (aml : Nat), .slice la nl lc] dI HRG.out.1 hI hI2 szIc ?_)
        | (refine wpList_store_mid rfl 24 _ _ rfl wr.heap.size 0 #[.int .u8 cbl, .int .u8 (aml : Nat), .slice la nl lc] rfl rfl (th_new wr _ _ rfl) szIc hone ?_))
      have hbS : Below wr.heap.size wr ((wr.alloc (.cells #[.int .u8 0, .int .u8 0, .slice none 0 0] 24)).setCells wr.heap.size 0 [.int .u8 cbl, .int .u8 (aml : Nat), .slice la nl lc]) := below_setCells (Nat.le_refl _) _ _ ((Below.refl _ _).alloc (Nat.le_refl _) _)
      have hrS : ((wr.alloc (.cells #[.int .u8 0, .int .u8 0, .slice none 0 0] 24)).setCells wr.heap.size 0 [.int .u8 cbl, .int .u8 (aml : Nat), .slice la nl lc]).rangeAt wr.heap.size 0 [.int .u8 cbl, .int .u8 (aml : Nat), .slice la nl lc] := World.rangeAt_setCells_same _ _ _ _ (th_new wr _ _ rfl)
      generalize World.setCells _ _ _ _ = w5 at *
      obtain ⟨bx, hbxe⟩ : ∃ bx, bx = wr.heap.size := ⟨_, rfl⟩
      rw [← hbxe] at hrS ⊢
      have H5 := Lib.hid (And.intro hrS (And.intro hbS (hbx.trans (hbS.mono hbx.size))))
      have HB1 := Lib.hid (rg_keep hbS (rg_keep HV.out HD1.out.1))
      have f0 := hrS 0 _ rfl
      rw [Nat.zero_add] at f0
      clear hrS hbS hbxe hbx e2 hone
      as_aux_lemma =>
      go_upto_if 83 with fail
      clear f0
      go_cut [14] (fun v wx => v = .int .u8 wv ∧ Hid (wx = w5))
      case first =>
        have hst := HST.out
        have hw := HWV.out
        have hs := HSV.out
        cases st with
        | false =>
          have hs0 : sv = 0 := by simpa using hs
          rw [hs0] at hw
          have hw2 : wv = cbl := by simpa using hw
          have HW2 := Lib.hid hw2
          clear hst hw hs hs0 hw2
          go_wp2_with fail
          go_meet
          exact ⟨by rw [HW2.out], Lib.hid rfl⟩
        | true =>
          have hs0 : sv = 1 := by simpa using hs
          rw [hs0] at hw
          have hw2 : wv = 0 := by simpa using hw
          have HW2 := Lib.hid hw2
          clear hst hw hs hs0 hw2
          go_wp2_with fail
          go_meet
          exact ⟨by rw [HW2.out], Lib.hid rfl⟩
      case rest =>
      obtain ⟨rfl, HW⟩ := hcut
      have hwc := HW.out
      rw [hwc]
      clear hwc HW HWV
      have HR5 := Lib.hid (rg_keep H5.out.2.1 HRG.out.2.1)
      have hone : (cmc (.slice ga sl gc) (.slice an 0 cn) wv).toArray.all (·.oneCell') = true := cmc_all _ _ _ _ _ _ _
      go_upto_region 25 with (first
        | (refine wpList_load_mid rfl 41 _ rfl og (l1 * 6) rfl (cmc (.slice ga sl gc) (.slice an 0 cn) wv) dC HR5.out hC hC2 szCmp ?_)
        | (refine wpList_store_mid rfl 41 _ _ rfl w5.heap.size 0 (cmc (.slice ga sl gc) (.slice an 0 cn) wv).toArray rfl rfl (th_new w5 _ _ rfl) szCmp hone ?_))
      have hbT : Below w5.heap.size w5 ((w5.alloc (.cells #[.pointer none, .slice none 0 0, .slice none 0 0, .int .i32 0, .int .u8 0, .bool false] 41)).setCells w5.heap.size 0 (cmc (.slice ga sl gc) (.slice an 0 cn) wv)) := below_setCells (Nat.le_refl _) _ _ ((Below.refl _ _).alloc (Nat.le_refl _) _)
      have hrT : ((w5.alloc (.cells #[.pointer none, .slice none 0 0, .slice none 0 0, .int .i32 0, .int .u8 0, .bool false] 41)).setCells w5.heap.size 0 (cmc (.slice ga sl gc) (.slice an 0 cn) wv)).rangeAt w5.heap.size 0 (cmc (.slice ga sl gc) (.slice an 0 cn) wv) := World.rangeAt_setCells_same _ _ _ _ (th_new w5 _ _ rfl)
      generalize World.setCells _ _ _ _ = w6 at *
      obtain ⟨bz, hbze⟩ : ∃ b, b = w5.heap.size := ⟨_, rfl⟩
      rw [← hbze] at hrT ⊢
      have H6 := Lib.hid (show w6.rangeAt bz 0 (cmc (.slice ga sl gc) (.slice an 0 cn) wv) ∧ w6.rangeAt bx 0 [.int .u8 cbl, .int .u8 (aml : Nat), .slice la nl lc] ∧ w6.rangeAt b1 0 [.int .u8 0, .int .u8 ((1 : Nat) : Int), .slice sa n sc] ∧ Below w.heap.size w w6 ∧ SubsAt w6 ga 0 (Nl ++ N) ∧ NmV (Old w) w6 (.slice la nl lc) Nl from
        ⟨hrT, rg_keep hbT H5.out.1, rg_keep hbT HB1.out, H5.out.2.2.trans (hbT.mono H5.out.2.2.size), (HRG.out.2.2.2.keep H5.out.2.1).keep hbT, (HRG.out.2.2.1.ag (fun b hb => H5.out.2.1.block b (Nat.lt_of_lt_of_le hb (HD1.out.2.2.trans (HV.out.mono HD1.out.2.2.size)).size))).ag (fun b hb => hbT.block b (Nat.lt_of_lt_of_le hb H5.out.2.2.size))⟩)
      have g0 := hrT 0 _ rfl
      have g1 := hrT 1 _ rfl
      have g2 := hrT 2 _ rfl
      have g4 := hrT 4 _ rfl
      have f2 := H6.out.2.1 2 _ rfl
      have c12 := H6.out.2.2.1 2 _ rfl
      simp only [Nat.zero_add] at g0 g1 g2 g4 f2 c12
      have hnb : nl ≤ 1048576 ∧ n ≤ 1048576 ∧ sl = nl + n := by
        have h1 := HNL.out
        have h2 := HQ.out.1.1
        have h3 := HN.out.1
        rw [List.length_append] at h1
        omega
      have HNB := Lib.hid hnb
      have hws : IntKind.i64.wrap ((nl : Int) + (n : Int)) = (sl : Int) := by
        simp [IntKind.wrap, IntKind.bits, IntKind.signed]
        omega
      clear hrT hbT hbze hone hnb HR5
      clear ql0 ql1 ql2 qlb hwl
      as_aux_lemma =>
      go_wp2_with fail
      refine (na_any (Old w) ga sl gc 0 (.slice la nl lc) Nl w6 (by have h := HNL.out; rw [List.length_append] at h; omega) (by have := HNB.out; omega) (HK.out w6 H6.out.2.2.2.1).2.2.2 H6.out.2.2.2.2.2 (fun i hi => by
        obtain ⟨sg, p, e, h1, h2⟩ := H6.out.2.2.2.2.1 i (by rw [List.length_append]; omega)
        exact ⟨sg, p, e, h1, by rw [List.getElem_append_left hi] at h2; exact h2⟩)).mono ?_
      rintro e w7 ⟨rfl, hb⟩
      have H7 := Lib.hid (show SubsAt w7 ga nl N ∧ Below w.heap.size w w7 from ⟨fun i hi => by
        have hn := HNL.out.1
        obtain ⟨sg, p, e, h1, h2⟩ := H6.out.2.2.2.2.1 (nl + i) (by rw [List.length_append]; omega)
        rw [List.getElem_append_right (by omega)] at h2
        refine ⟨sg, p, e, rg_keep hb (by rw [Nat.zero_add] at h1; exact h1), rg_keep hb ?_⟩
        simpa [hn] using h2, H6.out.2.2.2.1.trans (hb.mono H6.out.2.2.2.1.size)⟩)
      have g1 := later hb g1
      have f2 := later hb f2
      have c12 := later hb c12
      clear hb g0 g2 g4 hws
      as_aux_lemma =>
      go_wp2_with fail
      refine (na_any (Old w) ga sl gc nl (.slice sa n sc) N w7 (by have h := HNB.out; have h3 := HN.out.1; omega) (by have := HNB.out; omega) (HK.out w7 H7.out.2).2.2.2 (HK.out w7 H7.out.2).1 H7.out.1).mono ?_
      rintro e w8 ⟨rfl, hb⟩
      have H8 := Lib.hid (H7.out.2.trans (hb.mono H7.out.2.size))
      clear hb
      go_wp2_with fail
      go_ret
      exact ⟨rfl, H8.out⟩
    -- part>
  · as_aux_lemma =>
    -- <part
    have hzz : cb ≠ 0 ∨ (cb = 0 ∧ 0 < z) := by
      by_cases h : cb = 0
      · exact .inr ⟨h, by have := mt (fun h2 => (⟨h, h2⟩ : cb = 0 ∧ z = 0)) hz; omega⟩
      · exact .inl h
    have HZZ := Lib.hid hzz
    clear hz hzz
    obtain ⟨R, hRm, hro, hRf⟩ := HC.out.2.2.1
    rw [← HN.out.2.2] at hro
    have hRl : R.length = z := by rw [HN.out.2.2, ← hRm, List.length_map]
    have hz20 : z ≤ 1048576 := by rw [HN.out.2.2]; exact HQ.out.1.2.2.1
    refine (zs_is lg nc gx 1 va vn vc (.slice pa l pc) N L _ ca cc wB.heap.size sv wC HQ.out.1.1 HP.out.2.1 HQ.out.1.2.1.1 HZ0.out (fun b h => h.1) cb z (R.flatMap Cr.cells) HZZ.out hz20 HCL.out.1 (fun b h => h.2) hro HC.out.2.2.2.1.size).mono ?_
    rintro e wD ⟨og, oc, vq, rfl, hown, hg, -, hsub⟩
    have hbD : Below w.heap.size w wD := HCL.out.2.2.2.grown hg HCL.out.2.2.2.size (fun k hk => Nat.le_trans HBB.out.2.2.size (HCL.out.2.2.1 k hk))
    have hb1D := rg_ag (hg.block b1 (HCL.out.2.1 b1 HB12.out.1).1 (HCL.out.2.1 b1 HB12.out.1).2) HC.out.1.1
    have hb2D := rg_ag (hg.block b2 (HCL.out.2.1 b2 HB12.out.2).1 (HCL.out.2.1 b2 HB12.out.2).2) HC.out.1.2
    have HD1 := Lib.hid (And.intro hb1D (And.intro hb2D hbD))
    have HRF := Lib.hid (show ∀ r ∈ R, FCm (fun b => b < wC.heap.size) wD r from fun r hr => ((hRf r hr).ag (fun b hb => hg.block b hb.1.2 hb.2)).more (fun b hb => hb.1.2))
    have HR := Lib.hid (And.intro hRm (And.intro hRl hown))
    have HGS := Lib.hid hg.size
    have HSUB := Lib.hid hsub
    have c10 := hb1D 0 _ rfl
    have c20 := hb2D 0 _ rfl
    simp only [Nat.zero_add] at c10 c20
    have qz : (z : Int) ≤ 1048576 := by omega
    obtain ⟨z1, hz1⟩ : ∃ z1, z1 = z + 1 := ⟨_, rfl⟩
    have hwz : IntKind.i64.wrap ((z : Int) + 1) = (z1 : Int) := by
      simp [IntKind.wrap, IntKind.bits, IntKind.signed]
      omega
    have qz1 : (z : Int) < (z1 : Int) := by omega
    have qz0 : (0 : Int) ≤ z := by omega
    rw [← hz1]
    have HZ1 := Lib.hid hz1
    clear hRm hro hRl hz20 hown hg hsub hRf hb1D hb2D hbD HC HCL HBB hz1 HST
    obtain ⟨dC, hC, hC2⟩ := tyCmp
    go_upto_region 12 with fail
    go_cut [53] (fun v wx => v = .bool false ∧ Hid (wx = wD))
    case first =>
      by_cases h0 : cb = 0
      · have hzp : 0 < z := by rcases HZZ.out with h | h; exact absurd h0 h; exact h.2
        have x1 : ((z : Int) == 0) = false := beq_eq_false_iff_ne.mpr (by omega)
        subst h0
        clear hzp
        go_wp2_with fail
        go_meet
        exact ⟨rfl, Lib.hid rfl⟩
      · have x1 : (cb == 0) = false := beq_eq_false_iff_ne.mpr h0
        clear h0
        go_wp2_with fail
        go_meet
        exact ⟨rfl, Lib.hid rfl⟩
    case rest =>
    obtain ⟨rfl, HW⟩ := hcut
    have hwc := HW.out
    rw [hwc]
    clear hwc HW c10 c20 hwl
    as_aux_lemma =>
    go_upto_block 2 with fail
    refine wp_block ?_
    go_loopw [16] (fun i wr => ∃ (k : Nat), k ≤ z ∧ i = .int .i64 (k : Nat) ∧ Hid (Below wD.heap.size wD wr)) (fun i _ => z - (intOf i).toNat)
    case atStart => exact ⟨0, Nat.zero_le _, rfl, Lib.hid (Below.refl _ _)⟩
    case round =>
    obtain ⟨k, hk, rfl, HV⟩ := hrel
    have hbx : Below w.heap.size w wr := HD1.out.2.2.trans (HV.out.mono HD1.out.2.2.size)
    by_cases hlt : k < z
    · as_aux_lemma =>
      have q0 : (0 : Int) ≤ k := by omega
      have q1 : (k : Int) < (z : Nat) := by omega
      have q2 : (k : Int) < (z1 : Nat) := by omega
      have kZ : k < Z.length := by have := HN.out.2.2; omega
      have kR : k < R.length := by have := HR.out.2.1; omega
      obtain ⟨ra', rc', hre', hn⟩ := (HK.out wr hbx).2.2.1
      simp only [Value.slice.injEq] at hre'
      obtain ⟨rfl, -, rfl⟩ := hre'
      obtain ⟨ug, uo, uu, rfl, hXg, hrg, hnm⟩ := hn k kZ
      have h00 := HQ.out.2.2 _ (List.getElem_mem kZ)
      have r0 : wr.rangeAt og (k * 6) (Cr.cells R[k]) := by
        refine rg_keep HV.out (own_sub HR.out.2.2 (k * 6) _ (fun j hj => ?_) ?_)
        · rw [List.getElem?_append_left (by rw [flat_len Cr.cells (s := 6) (fun x => rfl)]; have : j < 6 := hj; omega)]
          exact flat_at Cr.cells (fun x => rfl) R k j kR hj
        · show k * 6 + 6 ≤ _
          omega
      have hfm := HRF.out _ (List.getElem_mem kR)
      have hm : (R[k]).m = Z[k] := by
        have h := List.getElem_of_eq HR.out.1 (i := k) (by simpa using kR)
        simpa using h
      obtain ⟨r, hr⟩ : ∃ r, r = R[k] := ⟨_, rfl⟩
      rw [← hr] at r0 hfm hm
      rw [← hm] at hrg hnm h00
      clear hr hm hn
      obtain ⟨hsub, an, cn, hvn, -⟩ := hfm.ag (ag_below (fun b h => Nat.lt_of_lt_of_le h HGS.out) HV.out)
      obtain ⟨vs, vn', cbk, amk, Nk⟩ := r
      dsimp only at hsub hvn h00 hrg hnm r0
      subst hvn
      obtain ⟨sak, sck, rfl, hsa⟩ := fsub_at hsub
      have HDD := Lib.hid (show CeV (Old w) wr.drew sak uu Nk ∧ Below w.heap.size w wr.drew ∧ Below wD.heap.size wD wr.drew from ⟨⟨hsa.keep ((Below.refl _ _).drew), hnm.ag (fun b hb => ((Below.refl wr.heap.size wr).drew).block b (Nat.lt_of_lt_of_le hb hbx.size))⟩, hbx.drew, HV.out.drew⟩)
      have HNN := Lib.hid h00
      have HS0 := Lib.hid (show wr.drew.rangeAt og (k * 6) (cmc (.slice sak Nk.length sck) (.slice an amk cn) cbk) ∧ wr.drew.rangeAt ug (uo + k * 3) [.int .u8 cbk, .int .u8 (amk : Nat), uu] from
        ⟨rg_keep ((Below.refl _ _).drew) r0, rg_keep ((Below.refl _ _).drew) hrg⟩)
      clear hrg hnm hXg h00 hbx r0 hfm hsub hsa
      go_upto_region 35 with fail
      refine Pl.wp_region_split (fun w' => w'.rangeAt og (k * 6) (cmc (.slice sak Nk.length sck) (.slice an amk cn) cbk) ∧ w'.rangeAt ug (uo + k * 3) [.int .u8 cbk, .int .u8 (amk : Nat), uu]) 8 (by kernel_rfl) (by kernel_rfl) ?_
      simp only [List.take_succ_cons, List.take_zero]
      have hHeld := HS0.out
      refine Pl.take_l (i := 0) (v := ?v3) rfl (by kernel_rfl) (by kernel_rfl) (by kernel_rfl) (fun _ _ _ h => h) rfl ?hy3 hHeld ?rest3
      case hy3 => (intro w hSw; (try dsimp only at hSw); (try obtain ⟨_, _⟩ := hSw); go_simp <;> (try with_reducible rfl))
      try simp only [Act.put, List.setIfInBounds_toArray, List.set_cons_zero, List.set_cons_succ]
      refine Pl.take_l (i := 1) (v := ?v4) rfl (by kernel_rfl) (by kernel_rfl) (by kernel_rfl) (fun _ _ _ h => h) rfl ?hy4 hHeld ?rest4
      case hy4 => (intro w hSw; (try dsimp only at hSw); (try obtain ⟨_, _⟩ := hSw); go_simp <;> (try with_reducible rfl))
      try simp only [Act.put, List.setIfInBounds_toArray, List.set_cons_zero, List.set_cons_succ]
      refine Pl.take_l (i := 2) (v := ?v5) rfl (by kernel_rfl) (by kernel_rfl) (by kernel_rfl) (fun _ _ _ h => h) rfl ?hy5 hHeld ?rest5
      case hy5 => (intro w hSw; (try dsimp only at hSw); (try obtain ⟨_, _⟩ := hSw); go_simp <;> (try with_reducible rfl))
      try simp only [Act.put, List.setIfInBounds_toArray, List.set_cons_zero, List.set_cons_succ]
      refine Pl.take_l (i := 3) (v := .agg #[.pointer none, .slice sak Nk.length sck, .slice an amk cn, .int .i32 0, .int .u8 cbk, .bool false]) rfl (by kernel_rfl) (by kernel_rfl) (by kernel_rfl) (fun _ _ _ h => h) rfl (fun w hSw => ex_load 41 (.tmp 145) rfl og (k * 6) rfl (cmc (.slice sak Nk.length sck) (.slice an amk cn) cbk) dC (hSw.1) hC hC2 szCmp) hHeld ?_
      try simp only [Act.put, List.setIfInBounds_toArray, List.set_cons_zero, List.set_cons_succ]
      refine Pl.take_l (i := 4) (v := ?v6) rfl (by kernel_rfl) (by kernel_rfl) (by kernel_rfl) (fun _ _ _ h => h) rfl ?hy6 hHeld ?rest6
      case hy6 => (intro w hSw; (try dsimp only at hSw); (try obtain ⟨_, _⟩ := hSw); go_simp <;> (try with_reducible rfl))
      try simp only [Act.put, List.setIfInBounds_toArray, List.set_cons_zero, List.set_cons_succ]
      refine Pl.take_l (i := 5) (v := ?v7) rfl (by kernel_rfl) (by kernel_rfl) (by kernel_rfl) (fun _ _ _ h => h) rfl ?hy7 hHeld ?rest7
      case hy7 => (intro w hSw; (try dsimp only at hSw); (try obtain ⟨_, _⟩ := hSw); go_simp <;> (try with_reducible rfl))
      try simp only [Act.put, List.setIfInBounds_toArray, List.set_cons_zero, List.set_cons_succ]
      refine Pl.take_l (i := 6) (v := ?v8) rfl (by kernel_rfl) (by kernel_rfl) (by kernel_rfl) (fun _ _ _ h => h) rfl ?hy8 hHeld ?rest8
      case hy8 => (intro w hSw; (try dsimp only at hSw); (try obtain ⟨_, _⟩ := hSw); go_simp <;> (try with_reducible rfl))
      try simp only [Act.put, List.setIfInBounds_toArray, List.set_cons_zero, List.set_cons_succ]
      refine Pl.take_l (i := 7) (v := .agg #[.int .u8 cbk, .int .u8 (amk : Nat), uu]) rfl (by kernel_rfl) (by kernel_rfl) (by kernel_rfl) (fun _ _ _ h => h) rfl (fun w hSw => ex_load 24 (.tmp 149) rfl ug (uo + k * 3) rfl ([.int .u8 cbk, .int .u8 (amk : Nat), uu]) dI (hSw.2) hI hI2 szIc) hHeld ?_
      try simp only [Act.put, List.setIfInBounds_toArray, List.set_cons_zero, List.set_cons_succ]
      generalize World.drew _ = wd at *
      refine wpAnyH_done (by kernel_rfl) ?_ _
      refine Pl.behind_normal (by decide) ?_
      simp only [List.drop_succ_cons, List.drop_zero]
      clear hHeld
      go_wp2_with fail
      refine (ce_any (Old w) sak an sck amk cn cbk uu Nk wd HNN.out.1 HNN.out.2 (HK.out wd HDD.out.2.1).2.2.2 HDD.out.1).mono ?_
      rintro e w6 ⟨rfl, hf⟩
      have HF := Lib.hid hf
      clear hf
      go_wp2_with fail
      exact ⟨⟨k + 1, by omega, by go_num, Lib.hid (HDD.out.2.2.trans (HF.out.mono HDD.out.2.2.size))⟩, by simp [intOf]; omega⟩
    · as_aux_lemma =>
      obtain rfl : z = k := by omega
      have qz2 : ¬ ((z : Int) < (z : Int)) := by omega
      clear hlt hk
      obtain ⟨P, D, q, ho, hPN, hPp, hfin⟩ := HSUB.out
      obtain ⟨qg, qc, hvq, -, -⟩ := ho.form (by omega)
      subst hvq
      have hPl : P.length = N.length := by rw [← hPN, List.length_map]
      have hsubs : SubsAt wD (some ⟨qg, 0, none⟩) 1 N := fun i hi => by
        have hiP : i < P.length := by omega
        refine ⟨qg, (P[i]).1, rfl, own_sub ho _ _ (fun j hj => ?_) (by show (1 + i) * 3 + 3 ≤ _; omega), ?_⟩
        · have hj3 : j < 3 := hj
          rw [List.getElem?_append_right (by show 3 ≤ _; omega), show (1 + i) * 3 + j - (isc q).length = i * 3 + j by show (1 + i) * 3 + j - 3 = _; omega]
          exact flat_at spc (fun x => rfl) P i j hiP hj3
        · have h := hPp _ (List.getElem_mem hiP)
          have e := List.getElem_of_eq hPN.symm hi
          rw [e, List.getElem_map]
          exact h
      have hq0 : wD.rangeAt qg 0 (isc q) := own_sub ho 0 _ (fun j hj => by rw [Nat.zero_add, List.getElem?_append_left hj]) (by show 0 + 3 ≤ _; omega)
      obtain ⟨q1, hq1⟩ : ∃ q1, q1 = P.length + 1 := ⟨_, rfl⟩
      have hoz : wD.rangeAt og (z * 6) (cmc (.slice (some ⟨qg, 0, none⟩) q1 qc) (.slice none 0 0) cb) := by
        rw [hq1]
        refine own_sub HR.out.2.2 (z * 6) _ (fun j hj => ?_) (by show z * 6 + 6 ≤ _; omega)
        have hfl : (R.flatMap Cr.cells).length = z * 6 := by rw [flat_len Cr.cells (s := 6) (fun x => rfl), HR.out.2.1]
        rw [List.getElem?_append_right (by rw [hfl]; omega), hfl, show z * 6 + j - z * 6 = j by omega]
      have HI := Lib.hid (show SubsAt wr (some ⟨qg, 0, none⟩) 1 N ∧ wr.rangeAt qg 0 (isc q) ∧ wr.rangeAt og (z * 6) (cmc (.slice (some ⟨qg, 0, none⟩) q1 qc) (.slice none 0 0) cb) ∧ IFin D q L wr ∧ wr.rangeAt b1 0 [.int .u8 cb, .int .u8 ((1 : Nat) : Int), .slice sa n sc] ∧ wr.rangeAt b2 0 [.slice ua l uc] ∧ Below w.heap.size w wr from
        ⟨hsubs.keep HV.out, rg_keep HV.out hq0, rg_keep HV.out hoz, hfin.keep HV.out, rg_keep HV.out HD1.out.1, rg_keep HV.out HD1.out.2.1, hbx⟩)
      have hnq : n ≤ 1048576 ∧ q1 = n + 1 ∧ N.length = n := by
        have h2 := HQ.out.1.1
        have h3 := HN.out.1
        omega
      have HNQ := Lib.hid hnq
      have hwq : IntKind.i64.wrap (1 + (n : Int)) = (q1 : Int) := by
        simp [IntKind.wrap, IntKind.bits, IntKind.signed]
        omega
      have qq : (0 : Int) < (q1 : Nat) := by omega
      clear hsubs hq0 hoz hfin ho hPN hPp hPl hq1 hnq hbx HR HRF HSUB HD1
      have hone : (cmc (.slice (some ⟨qg, 0, none⟩) q1 qc) (.slice none 0 0) cb).toArray.all (·.oneCell') = true := cmc_all _ _ _ _ _ _ _
      go_upto_region 38 with (first
        | (refine wpList_load_mid rfl 41 _ rfl og (z * 6) rfl (cmc (.slice (some ⟨qg, 0, none⟩) q1 qc) (.slice none 0 0) cb) dC HI.out.2.2.1 hC hC2 szCmp ?_)
        | (refine wpList_store_mid rfl 41 _ _ rfl wr.heap.size 0 (cmc (.slice (some ⟨qg, 0, none⟩) q1 qc) (.slice none 0 0) cb).toArray rfl rfl (th_new wr _ _ rfl) szCmp hone ?_))
      have hbT : Below wr.heap.size wr ((wr.alloc (.cells #[.pointer none, .slice none 0 0, .slice none 0 0, .int .i32 0, .int .u8 0, .bool false] 41)).setCells wr.heap.size 0 (cmc (.slice (some ⟨qg, 0, none⟩) q1 qc) (.slice none 0 0) cb)) := below_setCells (Nat.le_refl _) _ _ ((Below.refl _ _).alloc (Nat.le_refl _) _)
      have hrT : ((wr.alloc (.cells #[.pointer none, .slice none 0 0, .slice none 0 0, .int .i32 0, .int .u8 0, .bool false] 41)).setCells wr.heap.size 0 (cmc (.slice (some ⟨qg, 0, none⟩) q1 qc) (.slice none 0 0) cb)).rangeAt wr.heap.size 0 (cmc (.slice (some ⟨qg, 0, none⟩) q1 qc) (.slice none 0 0) cb) := World.rangeAt_setCells_same _ _ _ _ (th_new wr _ _ rfl)
      generalize World.setCells _ _ _ _ = w6 at *
      obtain ⟨bz, hbze⟩ : ∃ b, b = wr.heap.size := ⟨_, rfl⟩
      rw [← hbze] at hrT ⊢
      have H6 := Lib.hid (show w6.rangeAt bz 0 (cmc (.slice (some ⟨qg, 0, none⟩) q1 qc) (.slice none 0 0) cb) ∧ Below wr.heap.size wr w6 from ⟨hrT, hbT⟩)
      have g0 := hrT 0 _ rfl
      have g1 := hrT 1 _ rfl
      have g2 := hrT 2 _ rfl
      have g4 := hrT 4 _ rfl
      have c10 := rg_keep hbT HI.out.2.2.2.2.1 0 _ rfl
      have c12 := rg_keep hbT HI.out.2.2.2.2.1 2 _ rfl
      simp only [Nat.zero_add] at g0 g1 g2 g4 c10 c12
      have HS0 := Lib.hid (show w6.drew.cell? ⟨bz, 1, none⟩ = some (.slice (some ⟨qg, 0, none⟩) q1 qc) ∧ w6.drew.rangeAt qg 0 (isc q) ∧ w6.drew.rangeAt b2 0 [.slice ua l uc] ∧ w6.drew.cell? ⟨b1, 2, none⟩ = some (.slice sa n sc) from
        ⟨later ((Below.refl _ _).drew) g1, rg_keep ((Below.refl _ _).drew) (rg_keep hbT HI.out.2.1), rg_keep ((Below.refl _ _).drew) (rg_keep hbT HI.out.2.2.2.2.2.1), later ((Below.refl _ _).drew) c12⟩)
      have HI6 := Lib.hid (show SubsAt w6.drew (some ⟨qg, 0, none⟩) 1 N ∧ IFin D q L w6.drew ∧ Below w.heap.size w w6.drew from
        ⟨(HI.out.1.keep hbT).keep ((Below.refl _ _).drew), (HI.out.2.2.2.1.keep hbT).keep ((Below.refl _ _).drew), (HI.out.2.2.2.2.2.2.trans (hbT.mono HI.out.2.2.2.2.2.2.size)).drew⟩)
      clear hrT hbT hbze hone HI qz qz0 qz1 qz2 hwz
      as_aux_lemma =>
      go_upto_region 42 with fail
      clear g0 g1 g2 g4 c10 c12 hwq
      have qqn : 0 < q1 := by omega
      refine wp_region_held_drew (S := fun w' => w'.cell? ⟨bz, 1, none⟩ = some (.slice (some ⟨qg, 0, none⟩) q1 qc) ∧ w'.rangeAt qg 0 (isc q) ∧ w'.rangeAt b2 0 [.slice ua l uc] ∧ w'.cell? ⟨b1, 2, none⟩ = some (.slice sa n sc)) (by kernel_rfl) HS0.out (fun hHeld => ?_)
      show wpAnyH _ _ _ _ _ 15 (Array.replicate 15 false) _ _
      obtain ⟨dS, hS, hS2⟩ := tySub
      refine Pl.take_l (i := 0) (v := ?v1008) rfl (by kernel_rfl) (by kernel_rfl) (by kernel_rfl) (fun _ _ _ h => h) rfl ?hy1008 hHeld ?rest1008
      case hy1008 => (intro w hSw; (try dsimp only at hSw); (obtain ⟨_, _, _, _⟩ := hSw); go_simp <;> (try with_reducible rfl))
      try simp only [Act.put, List.setIfInBounds_toArray, List.set_cons_zero, List.set_cons_succ]
      refine Pl.take_l (i := 1) (v := ?v1009) rfl (by kernel_rfl) (by kernel_rfl) (by kernel_rfl) (fun _ _ _ h => h) rfl ?hy1009 hHeld ?rest1009
      case hy1009 => (intro w hSw; (try dsimp only at hSw); (obtain ⟨_, _, _, _⟩ := hSw); go_simp <;> (try with_reducible rfl))
      try simp only [Act.put, List.setIfInBounds_toArray, List.set_cons_zero, List.set_cons_succ]
      refine Pl.take_l (i := 2) (v := ?v1010) rfl (by kernel_rfl) (by kernel_rfl) (by kernel_rfl) (fun _ _ _ h => h) rfl ?hy1010 hHeld ?rest1010
      case hy1010 => (intro w hSw; (try dsimp only at hSw); (obtain ⟨_, _, _, _⟩ := hSw); go_simp <;> (try with_reducible rfl))
      try simp only [Act.put, List.setIfInBounds_toArray, List.set_cons_zero, List.set_cons_succ]
      refine Pl.take_l (i := 3) (v := .agg #[.iface 115 (.pointer (some ⟨q, 0, none⟩)), .int .i32 0, .int .i32 0]) rfl (by kernel_rfl) (by kernel_rfl) (by kernel_rfl) (fun _ _ _ h => h) rfl (fun w hSw => ex_load 56 (.tmp 185) rfl qg 0 rfl (isc q) dS (hSw.2.1) hS hS2 szSub) hHeld ?_
      try simp only [Act.put, List.setIfInBounds_toArray, List.set_cons_zero, List.set_cons_succ]
      refine Pl.take_l (i := 4) (v := .agg #[.slice ua l uc]) rfl (by kernel_rfl) (by kernel_rfl) (by kernel_rfl) (fun _ _ _ h => h) rfl (fun w hSw => ex_load 27 (.tmp 5) rfl b2 0 rfl ([.slice ua l uc]) dG (hSw.2.2.1) hG hG2 szGx) hHeld ?_
      try simp only [Act.put, List.setIfInBounds_toArray, List.set_cons_zero, List.set_cons_succ]
      generalize World.drew _ = wd at *
      have hal : Below wd.heap.size wd (wd.alloc (.cells #[.slice ua l uc] 27)) := (Below.refl _ _).alloc (Nat.le_refl _) _
      have hcx := rg_new wd #[.slice ua l uc] 27 0 _ rfl
      rw [Nat.zero_add] at hcx
      have hbs := bs_cx ua l uc wd
      have hxe : ∃ x7, x7 = wd.alloc (.cells #[.slice ua l uc] 27) := ⟨_, rfl⟩
      obtain ⟨x7, hx7⟩ := hxe
      obtain ⟨gh, hgh⟩ : ∃ g, g = wd.heap.size := ⟨_, rfl⟩
      rw [← hx7, ← hgh] at hbs
      rw [← hx7, ← hgh] at hcx
      rw [← hx7] at hal
      have HX7 := Lib.hid (And.intro hal hcx)
      clear hx7 hgh hal hcx
      refine Pl.alone_l (i := 5) (by kernel_rfl) rfl (fun K hK => ?_)
      refine step_bs1 rfl 57 (.tmp 187) rfl _ _ _ ?hx hbs ?_; case hx => (show _ = _; rfl)
      refine hK.out _ _ (⟨later HX7.out.1 HS0.out.1, rg_keep HX7.out.1 HS0.out.2.1, rg_keep HX7.out.1 HS0.out.2.2.1, later HX7.out.1 HS0.out.2.2.2⟩) (fun hHeld2 => ?_)
      clear hK K hHeld
      have hHeld := hHeld2
      clear hHeld2
      try simp only [Act.put, List.setIfInBounds_toArray, List.set_cons_zero, List.set_cons_succ]
      have hbX : Below w.heap.size w x7 := HI6.out.2.2.trans (HX7.out.1.mono HI6.out.2.2.size)
      obtain ⟨go, cgo, vL, hi1, hi2, hi3, -⟩ := HI6.out.2.1.keep HX7.out.1
      have HI7 := Lib.hid (And.intro hbX (And.intro hi1 (And.intro hi2 (And.intro hi3 (HI6.out.1.keep HX7.out.1)))))
      have HS7 := Lib.hid (show x7.cell? ⟨bz, 1, none⟩ = some (.slice (some ⟨qg, 0, none⟩) q1 qc) ∧ x7.rangeAt qg 0 (isc q) ∧ x7.rangeAt b2 0 [.slice ua l uc] ∧ x7.cell? ⟨b1, 2, none⟩ = some (.slice sa n sc) from hHeld)
      clear hbX hi1 hi2 hi3
      refine Pl.alone_l (i := 6) (by kernel_rfl) rfl (fun K hK => ?_)
      go_simp; refine (ile_any (Old w) (fun b => D ≤ b ∧ b < x7.heap.size) q go cgo gh 1 vL (.slice ua l uc) L x7 HQ.out.1.2.1.1 HQ.out.2.1 (HK.out x7 HI7.out.1).2.2.2 (fun b h => h.2) (HK.out x7 HI7.out.1).2.1 HI7.out.2.2.2.1 HI7.out.2.1 HI7.out.2.2.1 HX7.out.2).mono ?_; rintro e x8 ⟨rfl, hf⟩; have HF := Lib.hid hf; clear hf; dsimp only
      refine hK.out _ _ (⟨later HF.out HS7.out.1, rg_keep HF.out HS7.out.2.1, rg_keep HF.out HS7.out.2.2.1, later HF.out HS7.out.2.2.2⟩) (fun hHeld2 => ?_)
      clear hK K hHeld
      have hHeld := hHeld2
      clear hHeld2
      try simp only [Act.put, List.setIfInBounds_toArray, List.set_cons_zero, List.set_cons_succ]
      refine Pl.take_l (i := 7) (v := ?v1011) rfl (by kernel_rfl) (by kernel_rfl) (by kernel_rfl) (fun _ _ _ h => h) rfl ?hy1011 hHeld ?rest1011
      case hy1011 => (intro w hSw; (try dsimp only at hSw); (obtain ⟨_, _, _, _⟩ := hSw); go_simp <;> (try with_reducible rfl))
      try simp only [Act.put, List.setIfInBounds_toArray, List.set_cons_zero, List.set_cons_succ]
      refine Pl.take_g (i := 8) (v := ?v1014) rfl (by kernel_rfl) (by kernel_rfl) (by kernel_rfl) (fun _ _ _ h => h) (by rfl) ?hy1014 hHeld ?rest1014
      case hy1014 => (intro w hSw; (try dsimp only at hSw); (obtain ⟨_, _, _, _⟩ := hSw); go_simp <;> (try with_reducible rfl))
      try simp only [Act.put, List.setIfInBounds_toArray, List.set_cons_zero, List.set_cons_succ]
      refine Pl.take_g (i := 9) (v := ?v1015) rfl (by kernel_rfl) (by kernel_rfl) (by kernel_rfl) (fun _ _ _ h => h) (by rfl) ?hy1015 hHeld ?rest1015
      case hy1015 => (intro w hSw; (try dsimp only at hSw); (obtain ⟨_, _, _, _⟩ := hSw); go_simp <;> (try with_reducible rfl))
      try simp only [Act.put, List.setIfInBounds_toArray, List.set_cons_zero, List.set_cons_succ]
      refine Pl.take_g (i := 10) (v := ?v1016) rfl (by kernel_rfl) (by kernel_rfl) (by kernel_rfl) (fun _ _ _ h => h) (by rfl) ?hy1016 hHeld ?rest1016
      case hy1016 => (intro w hSw; (try dsimp only at hSw); (obtain ⟨_, _, _, _⟩ := hSw); go_simp <;> (try with_reducible rfl))
      try simp only [Act.put, List.setIfInBounds_toArray, List.set_cons_zero, List.set_cons_succ]
      refine Pl.take_g (i := 11) (v := ?v1017) rfl (by kernel_rfl) (by kernel_rfl) (by kernel_rfl) (fun _ _ _ h => h) (by rfl) ?hy1017 hHeld ?rest1017
      case hy1017 => (intro w hSw; (try dsimp only at hSw); (obtain ⟨_, _, _, _⟩ := hSw); go_simp <;> (try with_reducible rfl))
      try simp only [Act.put, List.setIfInBounds_toArray, List.set_cons_zero, List.set_cons_succ]
      have H8 := Lib.hid (show Below w.heap.size w x8 ∧ SubsAt x8 (some ⟨qg, 0, none⟩) 1 N from ⟨HI7.out.1.trans (HF.out.mono HI7.out.1.size), HI7.out.2.2.2.2.keep HF.out⟩)
      have HS8 := Lib.hid (show x8.cell? ⟨bz, 1, none⟩ = some (.slice (some ⟨qg, 0, none⟩) q1 qc) ∧ x8.rangeAt qg 0 (isc q) ∧ x8.rangeAt b2 0 [.slice ua l uc] ∧ x8.cell? ⟨b1, 2, none⟩ = some (.slice sa n sc) from hHeld)
      refine Pl.alone_l (i := 12) (by kernel_rfl) rfl (fun K hK => ?_)
      rw [if_pos (by rfl)]; go_simp; refine (na_any (Old w) (some ⟨qg, 0, none⟩) q1 qc 1 (.slice sa n sc) N x8 (by have := HNQ.out; omega) (by have := HNQ.out; omega) (HK.out x8 H8.out.1).2.2.2 (HK.out x8 H8.out.1).1 H8.out.2).mono ?_; rintro e x9 ⟨rfl, hf⟩; have HE := Lib.hid hf; clear hf; dsimp only
      refine hK.out _ _ (⟨later HE.out HS8.out.1, rg_keep HE.out HS8.out.2.1, rg_keep HE.out HS8.out.2.2.1, later HE.out HS8.out.2.2.2⟩) (fun hHeld2 => ?_)
      clear hK K hHeld
      have hHeld := hHeld2
      clear hHeld2
      try simp only [Act.put, List.setIfInBounds_toArray, List.set_cons_zero, List.set_cons_succ]
      refine Pl.take_l (i := 13) (v := ?v1012) rfl (by kernel_rfl) (by kernel_rfl) (by kernel_rfl) (fun _ _ _ h => h) rfl ?hy1012 hHeld ?rest1012
      case hy1012 => (intro w hSw; (try dsimp only at hSw); (obtain ⟨_, _, _, _⟩ := hSw); go_simp <;> (try with_reducible rfl))
      try simp only [Act.put, List.setIfInBounds_toArray, List.set_cons_zero, List.set_cons_succ]
      refine Pl.take_l (i := 14) (v := ?v1013) rfl (by kernel_rfl) (by kernel_rfl) (by kernel_rfl) (fun _ _ _ h => h) rfl ?hy1013 hHeld ?rest1013
      case hy1013 => (intro w hSw; (try dsimp only at hSw); (obtain ⟨_, _, _, _⟩ := hSw); go_simp <;> (try with_reducible rfl))
      try simp only [Act.put, List.setIfInBounds_toArray, List.set_cons_zero, List.set_cons_succ]
      refine wpAnyH_done (by kernel_rfl) ?_ _
      have H9 := Lib.hid (H8.out.1.trans (HE.out.mono H8.out.1.size))
      clear hHeld
      go_wp2_with fail
      go_ret
      exact ⟨rfl, H9.out⟩
    -- part>
end Go.Proofs.YtaiofdgiabmelaaFmt.Sb
