/-
  The sum of all lengths.
-/
import Derived.Test.YtaiofdgiabmelaaFmtUr
namespace Go.Proofs.YtaiofdgiabmelaaFmt.Sb
open Go.ChangeShapes Go.WideShapes Go.ChangeAt Go.RowKit Rg
set_option linter.unusedVariables false
set_option linter.unusedSimpArgs false
/-- some number -/
def SmP (w : World) (e : Ending) (w' : World) : Prop := (∃ s : Int, e = .returned (.int .i64 s)) ∧ Below w.heap.size w w'
set_option maxRecDepth 100000 in
set_option maxHeartbeats 4000000 in
theorem bsm_any (X : Nat → Prop) (cb : Int) (am : Nat) (us u ur : Value) (N : List ByteArray) (L Z : List Cm) (w : World) (hN : N.length ≤ 1048576) (hL : L.length ≤ 1048576) (hZ : Z.length ≤ 1048576) (h0 : ∀ c ∈ L, c.am ≤ 255 ∧ c.N.length ≤ 1048576) (h1 : ∀ c ∈ Z, c.am ≤ 255 ∧ c.N.length ≤ 1048576) (hX : ∀ b, X b → b < w.heap.size) (hs : NmV X w us N) (hu : CmV X w u L) (hr : CmV X w ur Z) :
    Calls Tryf.prog 5 #[.agg #[.int .u8 cb, .int .u8 (am : Nat), us], .agg #[u], ur] w (SmP w) := by
  obtain ⟨sa, sc, hse, -⟩ := id hs
  obtain ⟨ua, uc, hue, -⟩ := id hu
  obtain ⟨ra, rc, hre, -⟩ := id hr
  subst hse hue hre
  obtain ⟨n, hnn⟩ : ∃ n, n = N.length := ⟨_, rfl⟩
  obtain ⟨l, hll⟩ : ∃ n, n = L.length := ⟨_, rfl⟩
  obtain ⟨z, hzz⟩ : ∃ n, n = Z.length := ⟨_, rfl⟩
  rw [← hnn] at hs ⊢
  rw [← hll] at hu ⊢
  rw [← hzz] at hr ⊢
  have HU := Lib.hid (And.intro hX (And.intro hs (And.intro hu hr)))
  have HL := Lib.hid (And.intro hN (And.intro hL (And.intro hZ (And.intro h0 h1))))
  clear hX hs hu hr hN hL hZ h0 h1 hnn hll hzz
  obtain ⟨dI, hI, hI2⟩ := tyIc
  go_enter Tryf.func5, Tryf.ntmps5
  go_upto_region 1 with fail
  have h1 : Below w.heap.size w (w.alloc (.cells #[.int .u8 cb, .int .u8 (am : Nat), .slice sa n sc] 24)) := (Below.refl _ _).alloc (Nat.le_refl _) _
  have r1 := rg_new w #[.int .u8 cb, .int .u8 (am : Nat), .slice sa n sc] 24
  have s1 : (w.alloc (.cells #[.int .u8 cb, .int .u8 (am : Nat), .slice sa n sc] 24)).heap.size = w.heap.size + 1 := World.size_alloc _ _
  generalize w.alloc _ = x1 at *
  have h2 : Below x1.heap.size x1 (x1.alloc (.cells #[.slice ua l uc] 27)) := (Below.refl _ _).alloc (Nat.le_refl _) _
  have r2 := rg_new x1 #[.slice ua l uc] 27 0 _ rfl
  rw [s1, Nat.zero_add] at r2
  have r1' := rg_keep h2 r1
  have h12 := h1.trans (h2.mono h1.size)
  generalize x1.alloc _ = x2 at *
  obtain ⟨b1, hb1⟩ : ∃ b, b = w.heap.size := ⟨_, rfl⟩
  obtain ⟨b2, hb2⟩ : ∃ b, b = b1 + 1 := ⟨_, rfl⟩
  rw [← hb1, ← hb2]
  rw [← hb1] at r2 r1'
  rw [← hb2] at r2
  have HS0 := Lib.hid (show x2.drew.rangeAt b1 0 [.int .u8 cb, .int .u8 (am : Nat), .slice sa n sc] ∧ x2.drew.cell? ⟨b2, 0, none⟩ = some (.slice ua l uc) from ⟨rg_keep ((Below.refl _ _).drew) r1', later ((Below.refl _ _).drew) r2⟩)
  have H2 := Lib.hid (show Below w.heap.size w x2.drew from h12.drew)
  clear h1 r1 s1 h2 h12 hb1 hb2 r2 r1'
  refine Pl.wp_region_split (fun w' => w'.rangeAt b1 0 [.int .u8 cb, .int .u8 (am : Nat), .slice sa n sc] ∧ w'.cell? ⟨b2, 0, none⟩ = some (.slice ua l uc)) 10 (by kernel_rfl) (by kernel_rfl) ?_
  simp only [List.take_succ_cons, List.take_zero]
  have hHeld := HS0.out
  refine Pl.take_l (i := 0) (v := .agg #[.int .u8 cb, .int .u8 (am : Nat), .slice sa n sc]) rfl (by kernel_rfl) (by kernel_rfl) (by kernel_rfl) (fun _ _ _ h => h) rfl (fun w hSw => ex_load 24 (.tmp 3) rfl b1 0 rfl ([.int .u8 cb, .int .u8 (am : Nat), .slice sa n sc]) dI (hSw.1) hI hI2 szIc) hHeld ?_
  try simp only [Act.put, List.setIfInBounds_toArray, List.set_cons_zero, List.set_cons_succ]
  refine Pl.take_l (i := 2) (v := ?v1) rfl (by kernel_rfl) (by kernel_rfl) (by kernel_rfl) (fun _ _ _ h => h) rfl ?hy1 hHeld ?rest1
  case hy1 => (intro w hSw; (try dsimp only at hSw); (try obtain ⟨_, _⟩ := hSw); go_simp <;> (try with_reducible rfl))
  try simp only [Act.put, List.setIfInBounds_toArray, List.set_cons_zero, List.set_cons_succ]
  refine Pl.take_l (i := 3) (v := ?v2) rfl (by kernel_rfl) (by kernel_rfl) (by kernel_rfl) (fun _ _ _ h => h) rfl ?hy2 hHeld ?rest2
  case hy2 => (intro w hSw; (try dsimp only at hSw); (try obtain ⟨_, _⟩ := hSw); go_simp <;> (try with_reducible rfl))
  try simp only [Act.put, List.setIfInBounds_toArray, List.set_cons_zero, List.set_cons_succ]
  refine Pl.take_l (i := 7) (v := ?v3) rfl (by kernel_rfl) (by kernel_rfl) (by kernel_rfl) (fun _ _ _ h => h) rfl ?hy3 hHeld ?rest3
  case hy3 => (intro w hSw; (try dsimp only at hSw); (try obtain ⟨_, _⟩ := hSw); go_simp <;> (try with_reducible rfl))
  try simp only [Act.put, List.setIfInBounds_toArray, List.set_cons_zero, List.set_cons_succ]
  generalize World.drew _ = wd at *
  refine Pl.alone_l (i := 1) (by kernel_rfl) rfl (fun K hK => ?_)
  go_simp; refine (cby_any X cb am (.slice sa n sc) N wd HL.out.1 (fun b h => Nat.lt_of_lt_of_le (HU.out.1 b h) H2.out.size) (HU.out.2.1.ag (ag_below HU.out.1 H2.out))).mono ?_; rintro e w5 ⟨⟨s1, rfl⟩, hf⟩; have H5 := Lib.hid (show Below wd.heap.size wd w5 ∧ Below w.heap.size w w5 from ⟨hf, H2.out.trans (hf.mono H2.out.size)⟩); clear hf; dsimp only
  refine hK.out _ _ (⟨rg_keep H5.out.1 HS0.out.1, later H5.out.1 HS0.out.2⟩) (fun hHeld2 => ?_)
  clear hK K hHeld
  have hHeld := hHeld2
  clear hHeld2
  try simp only [Act.put, List.setIfInBounds_toArray, List.set_cons_zero, List.set_cons_succ]
  refine Pl.alone_l (i := 4) (by kernel_rfl) rfl (fun K hK => ?_)
  go_simp; refine (csb_any X (.slice ua l uc) L w5 HL.out.2.1 HL.out.2.2.2.1 (fun b h => Nat.lt_of_lt_of_le (HU.out.1 b h) H5.out.2.size) (HU.out.2.2.1.ag (ag_below HU.out.1 H5.out.2))).mono ?_; rintro e w6 ⟨⟨s2, rfl⟩, hf⟩; have H6 := Lib.hid (show Below wd.heap.size wd w6 ∧ Below w.heap.size w w6 from ⟨H5.out.1.trans (hf.mono H5.out.1.size), H5.out.2.trans (hf.mono H5.out.2.size)⟩); clear hf; dsimp only
  refine hK.out _ _ (⟨rg_keep H6.out.1 HS0.out.1, later H6.out.1 HS0.out.2⟩) (fun hHeld2 => ?_)
  clear hK K hHeld
  have hHeld := hHeld2
  clear hHeld2
  try simp only [Act.put, List.setIfInBounds_toArray, List.set_cons_zero, List.set_cons_succ]
  refine Pl.take_l (i := 5) (v := ?v4) rfl (by kernel_rfl) (by kernel_rfl) (by kernel_rfl) (fun _ _ _ h => h) rfl ?hy4 hHeld ?rest4
  case hy4 => (intro w hSw; (try dsimp only at hSw); (try obtain ⟨_, _⟩ := hSw); go_simp <;> (try with_reducible rfl))
  try simp only [Act.put, List.setIfInBounds_toArray, List.set_cons_zero, List.set_cons_succ]
  refine Pl.take_l (i := 6) (v := ?v5) rfl (by kernel_rfl) (by kernel_rfl) (by kernel_rfl) (fun _ _ _ h => h) rfl ?hy5 hHeld ?rest5
  case hy5 => (intro w hSw; (try dsimp only at hSw); (try obtain ⟨_, _⟩ := hSw); go_simp <;> (try with_reducible rfl))
  try simp only [Act.put, List.setIfInBounds_toArray, List.set_cons_zero, List.set_cons_succ]
  refine Pl.alone_l (i := 8) (by kernel_rfl) rfl (fun K hK => ?_)
  go_simp; refine (csb_any X (.slice ra z rc) Z w6 HL.out.2.2.1 HL.out.2.2.2.2 (fun b h => Nat.lt_of_lt_of_le (HU.out.1 b h) H6.out.2.size) (HU.out.2.2.2.ag (ag_below HU.out.1 H6.out.2))).mono ?_; rintro e w7 ⟨⟨s3, rfl⟩, hf⟩; have H7 := Lib.hid (show Below wd.heap.size wd w7 ∧ Below w.heap.size w w7 from ⟨H6.out.1.trans (hf.mono H6.out.1.size), H6.out.2.trans (hf.mono H6.out.2.size)⟩); clear hf; dsimp only
  refine hK.out _ _ (⟨rg_keep H7.out.1 HS0.out.1, later H7.out.1 HS0.out.2⟩) (fun hHeld2 => ?_)
  clear hK K hHeld
  have hHeld := hHeld2
  clear hHeld2
  try simp only [Act.put, List.setIfInBounds_toArray, List.set_cons_zero, List.set_cons_succ]
  refine Pl.take_l (i := 9) (v := ?v6) rfl (by kernel_rfl) (by kernel_rfl) (by kernel_rfl) (fun _ _ _ h => h) rfl ?hy6 hHeld ?rest6
  case hy6 => (intro w hSw; (try dsimp only at hSw); (try obtain ⟨_, _⟩ := hSw); go_simp <;> (try with_reducible rfl))
  try simp only [Act.put, List.setIfInBounds_toArray, List.set_cons_zero, List.set_cons_succ]
  refine wpAnyH_done (by kernel_rfl) ?_ _
  refine Pl.behind_normal (by decide) ?_
  simp only [List.drop_succ_cons, List.drop_zero]
  clear hHeld
  go_wp2_with fail
  go_ret
  exact ⟨⟨_, rfl⟩, H7.out.2⟩
end Go.Proofs.YtaiofdgiabmelaaFmt.Sb
