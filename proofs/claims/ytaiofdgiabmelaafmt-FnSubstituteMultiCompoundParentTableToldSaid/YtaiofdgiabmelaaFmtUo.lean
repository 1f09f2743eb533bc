/-
  cxsEqual at one complex selector, isListEqual.
-/
import Derived.Test.YtaiofdgiabmelaaFmtUn
namespace Go.Proofs.YtaiofdgiabmelaaFmt.Sb
open Go.ChangeShapes Go.WideShapes Go.ChangeAt Go.RowKit Rg
set_option linter.unusedVariables false
set_option linter.unusedSimpArgs false
set_option maxRecDepth 100000 in
set_option maxHeartbeats 4000000 in
theorem cxs_any (X Y : Nat → Prop) (g gc h hc : Nat) (v u : Value) (L : List Cm) (w : World) (hL : L.length ≤ 1048576) (h0 : ∀ c ∈ L, c.am ≤ 255 ∧ c.N.length ≤ 1048576) (hX : ∀ b, X b → b < w.heap.size) (hY : ∀ b, Y b → b < w.heap.size) (hu : CmV X w u L) (hv : FCms Y w v L)
    (hg : w.cell? ⟨g, 0, none⟩ = some v) (hh : w.cell? ⟨h, 0, none⟩ = some u) :
    Calls Tryf.prog 23 #[.slice (some ⟨g, 0, none⟩) 1 gc, .slice (some ⟨h, 0, none⟩) 1 hc] w (fun e w' => e = .returned (.bool true) ∧ Below w.heap.size w w') := by
  obtain ⟨ua, uc, hue, -⟩ := id hu
  obtain ⟨va, vn, vc, hve⟩ : ∃ a n c, v = .slice a n c := by
    obtain ⟨R, hro, -⟩ := hv
    obtain ⟨a, c, e⟩ := own_slice hro
    exact ⟨a, _, c, e⟩
  subst hue hve
  obtain ⟨l, hl⟩ : ∃ l, l = L.length := ⟨_, rfl⟩
  rw [← hl] at hu hh
  have HU := Lib.hid (And.intro hu (And.intro hv (And.intro hX (And.intro hY (And.intro hL h0)))))
  have HS := Lib.hid (show w.drew.cell? ⟨g, 0, none⟩ = some (.slice va vn vc) ∧ w.drew.cell? ⟨h, 0, none⟩ = some (.slice ua l uc) ∧ Below w.heap.size w w.drew from ⟨later ((Below.refl _ _).drew) hg, later ((Below.refl _ _).drew) hh, (Below.refl _ _).drew⟩)
  have HS0 := Lib.hid (show w.drew.cell? ⟨g, 0, none⟩ = some (.slice va vn vc) ∧ w.drew.cell? ⟨h, 0, none⟩ = some (.slice ua l uc) from ⟨HS.out.1, HS.out.2.1⟩)
  clear hu hv hX hY hL h0 hl hg hh
  go_enter Tryf.func23, Tryf.ntmps23
  go_upto_block 0 with fail
  refine wp_block ?_
  refine wp_loop_rounds 2 ?_
  rw [rounds_succ]
  go_upto_region 6 with fail
  refine Pl.wp_region_split (fun w' => w'.cell? ⟨g, 0, none⟩ = some (.slice va vn vc) ∧ w'.cell? ⟨h, 0, none⟩ = some (.slice ua l uc)) 8 (by kernel_rfl) (by kernel_rfl) ?_
  simp only [List.take_succ_cons, List.take_zero]
  have hHeld := HS0.out
  refine Pl.take_l (i := 0) (v := ?v1) rfl (by kernel_rfl) (by kernel_rfl) (by kernel_rfl) (fun _ _ _ h => h) rfl ?hy1 hHeld ?rest1
  case hy1 => (intro w hSw; (try dsimp only at hSw); (try obtain ⟨_, _⟩ := hSw); go_simp <;> (try with_reducible rfl))
  try simp only [Act.put, List.setIfInBounds_toArray, List.set_cons_zero, List.set_cons_succ]
  refine Pl.take_l (i := 1) (v := ?v2) rfl (by kernel_rfl) (by kernel_rfl) (by kernel_rfl) (fun _ _ _ h => h) rfl ?hy2 hHeld ?rest2
  case hy2 => (intro w hSw; (try dsimp only at hSw); (try obtain ⟨_, _⟩ := hSw); go_simp <;> (try with_reducible rfl))
  try simp only [Act.put, List.setIfInBounds_toArray, List.set_cons_zero, List.set_cons_succ]
  refine Pl.take_l (i := 2) (v := ?v3) rfl (by kernel_rfl) (by kernel_rfl) (by kernel_rfl) (fun _ _ _ h => h) rfl ?hy3 hHeld ?rest3
  case hy3 => (intro w hSw; (try dsimp only at hSw); (try obtain ⟨_, _⟩ := hSw); go_simp <;> (try with_reducible rfl))
  try simp only [Act.put, List.setIfInBounds_toArray, List.set_cons_zero, List.set_cons_succ]
  refine Pl.take_l (i := 3) (v := ?v4) rfl (by kernel_rfl) (by kernel_rfl) (by kernel_rfl) (fun _ _ _ h => h) rfl ?hy4 hHeld ?rest4
  case hy4 => (intro w hSw; (try dsimp only at hSw); (try obtain ⟨_, _⟩ := hSw); go_simp <;> (try with_reducible rfl))
  try simp only [Act.put, List.setIfInBounds_toArray, List.set_cons_zero, List.set_cons_succ]
  refine Pl.take_l (i := 4) (v := ?v5) rfl (by kernel_rfl) (by kernel_rfl) (by kernel_rfl) (fun _ _ _ h => h) rfl ?hy5 hHeld ?rest5
  case hy5 => (intro w hSw; (try dsimp only at hSw); (try obtain ⟨_, _⟩ := hSw); go_simp <;> (try with_reducible rfl))
  try simp only [Act.put, List.setIfInBounds_toArray, List.set_cons_zero, List.set_cons_succ]
  refine Pl.take_l (i := 5) (v := ?v6) rfl (by kernel_rfl) (by kernel_rfl) (by kernel_rfl) (fun _ _ _ h => h) rfl ?hy6 hHeld ?rest6
  case hy6 => (intro w hSw; (try dsimp only at hSw); (try obtain ⟨_, _⟩ := hSw); go_simp <;> (try with_reducible rfl))
  try simp only [Act.put, List.setIfInBounds_toArray, List.set_cons_zero, List.set_cons_succ]
  refine Pl.take_l (i := 6) (v := ?v7) rfl (by kernel_rfl) (by kernel_rfl) (by kernel_rfl) (fun _ _ _ h => h) rfl ?hy7 hHeld ?rest7
  case hy7 => (intro w hSw; (try dsimp only at hSw); (try obtain ⟨_, _⟩ := hSw); go_simp <;> (try with_reducible rfl))
  try simp only [Act.put, List.setIfInBounds_toArray, List.set_cons_zero, List.set_cons_succ]
  refine Pl.take_l (i := 7) (v := ?v8) rfl (by kernel_rfl) (by kernel_rfl) (by kernel_rfl) (fun _ _ _ h => h) rfl ?hy8 hHeld ?rest8
  case hy8 => (intro w hSw; (try dsimp only at hSw); (try obtain ⟨_, _⟩ := hSw); go_simp <;> (try with_reducible rfl))
  try simp only [Act.put, List.setIfInBounds_toArray, List.set_cons_zero, List.set_cons_succ]
  generalize World.drew _ = wd at *
  refine wpAnyH_done (by kernel_rfl) ?_ _
  refine Pl.behind_normal (by decide) ?_
  simp only [List.drop_succ_cons, List.drop_zero]
  clear hHeld
  go_wp2_with fail
  have hw := HU.out
  refine (cxe_any X Y (.slice va vn vc) (.slice ua l uc) L wd hw.2.2.2.2.1 hw.2.2.2.2.2 (fun b h => Nat.lt_of_lt_of_le (hw.2.2.1 b h) HS.out.2.2.size) (fun b h => Nat.lt_of_lt_of_le (hw.2.2.2.1 b h) HS.out.2.2.size) (hw.1.ag (ag_below hw.2.2.1 HS.out.2.2)) (hw.2.1.ag (ag_below hw.2.2.2.1 HS.out.2.2))).mono ?_
  rintro e w6 ⟨rfl, hf⟩
  have HF := Lib.hid hf
  clear hf hw
  go_wp2_with fail
  rw [rounds_succ]
  go_wp2_with fail
  go_ret
  exact ⟨rfl, HS.out.2.2.trans (HF.out.mono HS.out.2.2.size)⟩
set_option maxRecDepth 100000 in
set_option maxHeartbeats 4000000 in
theorem ile_any (X Y : Nat → Prop) (q g gc h hc : Nat) (v u : Value) (L : List Cm) (w : World) (hL : L.length ≤ 1048576) (h0 : ∀ c ∈ L, c.am ≤ 255 ∧ c.N.length ≤ 1048576) (hX : ∀ b, X b → b < w.heap.size) (hY : ∀ b, Y b → b < w.heap.size) (hu : CmV X w u L) (hv : FCms Y w v L)
    (hq : w.rangeAt q 0 (ilc (.slice (some ⟨g, 0, none⟩) 1 gc))) (hg : w.cell? ⟨g, 0, none⟩ = some v) (hh : w.cell? ⟨h, 0, none⟩ = some u) :
    Calls Tryf.prog 13 #[.agg (isc q).toArray, .slice (some ⟨h, 0, none⟩) 1 hc] w (fun e w' => e = .returned (.bool true) ∧ Below w.heap.size w w') := by
  have HU := Lib.hid (And.intro (And.intro hu hv) (And.intro (And.intro hX hY) (And.intro hq (And.intro hg hh))))
  have HL := Lib.hid (And.intro hL h0)
  clear hu hv hX hY hL h0 hq hg hh
  obtain ⟨dS, hS, hS2⟩ := tySub
  show Calls _ _ #[.agg #[.iface 115 (.pointer (some ⟨q, 0, none⟩)), .int .i32 0, .int .i32 0], _] _ _
  go_enter Tryf.func13, Tryf.ntmps13
  go_upto_region 1 with fail
  have h1 : Below w.heap.size w (w.alloc (.cells (isc q).toArray 56)) := (Below.refl _ _).alloc (Nat.le_refl _) _
  have r1 := rg_new w (isc q).toArray 56
  obtain ⟨b1, hb1⟩ : ∃ b, b = w.heap.size := ⟨_, rfl⟩
  rw [← hb1]
  rw [← hb1] at r1
  change Code.wp _ _ _ _ (w.alloc (.cells (isc q).toArray 56))
  generalize w.alloc _ = x1 at *
  have H1 := Lib.hid (show x1.rangeAt b1 0 (isc q) ∧ Below w.heap.size w x1 from ⟨r1, h1⟩)
  clear h1 r1 hb1
  go_wp2_with (first
    | (refine wpList_load_mid rfl 56 _ rfl b1 0 rfl (isc q) dS H1.out.1 hS hS2 szSub ?_))
  refine (kind1 q (.slice (some ⟨g, 0, none⟩) 1 gc) x1 (rg_keep H1.out.2 HU.out.2.2.1)).mono ?_
  rintro e x2 ⟨rfl, hb2⟩
  have H2 := Lib.hid (show x2.rangeAt b1 0 (isc q) ∧ Below w.heap.size w x2 from ⟨rg_keep hb2 H1.out.1, H1.out.2.trans (hb2.mono H1.out.2.size)⟩)
  clear hb2 H1
  go_wp2_with (first
    | (refine wpList_load_mid rfl 56 _ rfl b1 0 rfl (isc q) dS H2.out.1 hS hS2 szSub ?_))
  refine (islist q (.slice (some ⟨g, 0, none⟩) 1 gc) x2 _ _ _ rfl (rg_keep H2.out.2 HU.out.2.2.1)).mono ?_
  rintro e x3 ⟨rfl, hb3⟩
  have H3 := Lib.hid (show Below w.heap.size w x3 from H2.out.2.trans (hb3.mono H2.out.2.size))
  clear hb3 H2
  go_wp2_with fail
  refine (cxs_any X Y g gc h hc v u L x3 HL.out.1 HL.out.2 (fun b h => Nat.lt_of_lt_of_le (HU.out.2.1.1 b h) H3.out.size) (fun b h => Nat.lt_of_lt_of_le (HU.out.2.1.2 b h) H3.out.size) (HU.out.1.1.ag (ag_below HU.out.2.1.1 H3.out)) (HU.out.1.2.ag (ag_below HU.out.2.1.2 H3.out)) (later H3.out HU.out.2.2.2.1) (later H3.out HU.out.2.2.2.2)).mono ?_
  rintro e x4 ⟨rfl, hb4⟩
  have H4 := Lib.hid (H3.out.trans (hb4.mono H3.out.size))
  clear hb4
  go_wp2_with fail
  go_ret
  exact ⟨rfl, H4.out⟩
end Go.Proofs.YtaiofdgiabmelaaFmt.Sb
