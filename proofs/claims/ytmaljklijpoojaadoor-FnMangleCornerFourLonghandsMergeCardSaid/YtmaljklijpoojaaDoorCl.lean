/-
  compactRules.
-/
import Derived.Test.YtmaljklijpoojaaDoorCm
namespace Go.Proofs.YtmaljklijpoojaaDoor.Co
open Go.ChangeShapes Go.WideShapes Go.ChangeAt Go.RowKit Rg Quad
set_option linter.unusedVariables false
set_option linter.unusedSimpArgs false
theorem ruZ_one : (#[Value.nilIface, .int .i32 0].all (·.oneCell')) = true := by simp [Value.oneCell']
theorem S5.drew {q1 q2 : Nat → Int} {ix : Nat → Nat} {imp : Bool} {t : Nat} {key : Int} {r n g nv : Nat} {X : Nat → TY} {mb : Nat} {R : Nat → RU} {m : Int} {w0 w : World} (h : S5 q1 q2 ix imp t key r n g nv X mb R m w0 w) : S5 q1 q2 ix imp t key r n g nv X mb R m w0 w.drew := h.keep ⟨rfl, rfl, rfl, Nat.le_refl _, fun _ _ => rfl⟩
/-- what compactRules leaves -/
def CrP (q1 q2 : Nat → Int) (ix : Nat → Nat) (imp mf : Bool) (key : Int) (r n : Nat) (R : Nat → RU) (lc : Nat → Int) (w w' : World) : Prop :=
  ∃ d g nv cv X, RR w' r n (upR (rk R ix 4) (ix 3) (some d, mz ix lc 4)) ∧ Bk w' d 45 (dcR (.slice (some ⟨g, 0, none⟩) nv cv) key imp).toArray ∧ VX q1 q2 mf nv X ∧ TR w' g nv X ∧ w.heap.size ≤ d ∧ w.grownBy w' (some r)
def K4 (g t : Nat) (w0 w : World) : Prop := w.cell? ⟨g, 14, none⟩ = some (.string ⟨#[]⟩) ∧ w.cell? ⟨g, 15, none⟩ = some (.int .u8 0) ∧ w.cell? ⟨t, 14, none⟩ = some (.string ⟨#[]⟩) ∧ w.cell? ⟨t, 15, none⟩ = some (.int .u8 0) ∧ w0.heap.size ≤ w.heap.size ∧ Below w0.heap.size w0 w
theorem K4.keep {g t : Nat} {w0 w w' : World} (h : K4 g t w0 w) (hb : Below w.heap.size w w') : K4 g t w0 w' :=
  ⟨later hb h.1, later hb h.2.1, later hb h.2.2.1, later hb h.2.2.2.1, Nat.le_trans h.2.2.2.2.1 hb.size, h.2.2.2.2.2.trans (hb.mono h.2.2.2.2.1)⟩
set_option maxRecDepth 100000 in
set_option maxHeartbeats 8000000 in
theorem cr_any (t r n cr : Nat) (q1 q2 : Nat → Int) (ix : Nat → Nat) (imp mf : Bool) (key : Int) (R : Nat → RU) (lc : Nat → Int) (w : World)
    (ht : TK q1 q2 ix true imp t w) (htr : t ≠ r) (hR : RR w r n R) (hth : w.there r 0 (n * 2)) (hix : ∀ i, i < 4 → ix i < n) (hlc : ∀ i, i < 4 → (R (ix i)).2 = lc (ix i)) (hn : n ≤ 4096)
    (hq1 : ∀ j, j < 4 → 0 ≤ q1 j ∧ q1 j < 8) (hq2 : ∀ j, j < 4 → 0 ≤ q2 j ∧ q2 j < 8) :
    Calls Tryd.prog 23 #[.pointer (some ⟨t, 0, none⟩), .slice (some ⟨r, 0, none⟩) n cr, .agg #[.int .i32 key, .int .i32 3], .bool mf] w fun e w' => e = .returned (.tuple #[]) ∧ CrP q1 q2 ix imp mf key r n R lc w w' := by
  have HQ := Lib.hid (And.intro hq1 hq2)
  have HI := Lib.hid (And.intro hix hlc)
  have htl : t < w.heap.size := World.block_lt_of_cell? w _ ht.2.1
  have HW := Lib.hid (And.intro htr (And.intro hR hth))
  have hK : Bk (w.alloc (.cells #[.int .i32 key, .int .i32 3] 42)) w.heap.size 42 #[.int .i32 key, .int .i32 3] := heap_alloc_new w _
  have hb : Below w.heap.size w (w.alloc (.cells #[.int .i32 key, .int .i32 3] 42)) := (Below.refl _ _).alloc (Nat.le_refl _) _
  have hT := ht.keep hb
  clear hq1 hq2 hix hlc htr hR hth ht
  go_enter Tryd.func23, Tryd.ntmps23
  go_upto_region 1 with fail
  generalize World.alloc w _ = w1 at *
  have HS := Lib.hid (show S1 q1 q2 ix imp t key w w1 from ⟨hK, hb, hT⟩)
  have k0 := hT.1 0 (by omega) 5 _ rfl
  have k1 := hT.1 1 (by omega) 5 _ rfl
  have k2 := hT.1 2 (by omega) 5 _ rfl
  have k3 := hT.1 3 (by omega) 5 _ rfl
  simp only [Nat.reduceMul, Nat.reduceAdd, Nat.zero_add, Nat.zero_mul] at k0 k1 k2 k3
  have x0 : (tK (q1 0) == 0) = false := tK_pos
  have x1 : (tK (q1 1) == 0) = false := tK_pos
  have x2 : (tK (q1 2) == 0) = false := tK_pos
  have x3 : (tK (q1 3) == 0) = false := tK_pos
  generalize tK (q1 0) = y0 at *
  generalize tK (q1 1) = y1 at *
  generalize tK (q1 2) = y2 at *
  generalize tK (q1 3) = y3 at *
  clear hK hb hT
  go_upto_block 0 with fail
  clear k0 k1 k2 k3 x0 x1 x2 x3
  go_cut [] (fun wc => Hid (S1 q1 q2 ix imp t key w wc))
  case first =>
    -- <part
    go_wp2_with fail
    go_loopw [65] (fun iv wr => ∃ j : Nat, j ≤ 3 ∧ iv = .int .i64 j ∧ Hid (S1 q1 q2 ix imp t key w wr)) (fun iv _ => 3 - (intOf iv).toNat)
    case atStart => exact ⟨0, by omega, rfl, HS⟩
    case round =>
      clear HS
      obtain ⟨j, hj, rfl, HS⟩ := hrel
      by_cases hlt : j < 3
      case neg =>
        obtain rfl : j = 3 := by omega
        go_wp2_with fail
        go_meet
        exact HS
      have q0 : (0 : Int) ≤ j := by omega
      have q3 : (j : Int) < 3 := by omega
      obtain ⟨c, hc⟩ : ∃ c, cnR (q1 (j + 1)) (q2 (j + 1)) (ix (j + 1)) true = c := ⟨_, rfl⟩
      have hr := HS.out.2.2.1 (j + 1) (by omega)
      rw [show (j + 1) * 18 = 18 + j * 18 by omega, hc] at hr
      have l0 : c.length = 18 := by rw [← hc]; rfl
      have l1 : c.toArray.all (·.oneCell') = true := by rw [← hc]; exact cnR_one _ _ _ _
      have l2 : c[14]? = some (.string ⟨#[]⟩) := by rw [← hc]; rfl
      have l3 : c[15]? = some (.int .u8 0) := by rw [← hc]; rfl
      have hsz : (Tryd.prog.info? 66).map (·.size) = some c.length := by rw [l0]; exact szCn
      obtain ⟨du, hu, hu2⟩ := tyCn
      clear hc
      have hsz2 : (Tryd.prog.info? 66).map (·.size) = some c.toArray.size := by rw [List.size_toArray]; exact hsz
      have HL := Lib.hid (And.intro l0 l1)
      have HSZ2 := Lib.hid hsz2
      have HRR := Lib.hid hr
      have HSZ := Lib.hid hsz
      have HU := Lib.hid hu
      clear hr hsz hu hsz2 l0 l1
      go_upto_region 6 with (first | (refine wpList_load_mid rfl 66 _ rfl t (18 + j * 18) rfl c du HRR.out HU.out hu2 HSZ.out ?_) | (refine wpList_store_mid rfl 66 _ _ rfl wr.heap.size 0 c.toArray rfl rfl (th_new wr _ _ (by rw [List.size_toArray, HL.out.1]; rfl)) HSZ2.out HL.out.2 ?_))
      change Code.wp _ _ _ (Act.mk _ _) _
      generalize hw2 : World.setCells (World.alloc wr _) _ 0 c = w2
      have hr2 : w2.rangeAt wr.heap.size 0 c := by rw [← hw2]; exact World.rangeAt_setCells_same _ _ _ _ (th_new wr _ _ (by rw [HL.out.1]; rfl))
      have hb2 : Below wr.heap.size wr w2 := by rw [← hw2]; exact below_setCells (Nat.le_refl _) _ _ ((Below.refl _ _).alloc (Nat.le_refl _) _)
      clear hw2
      have HS2 := Lib.hid (HS.out.keep hb2)
      have hT := HS2.out.2.2.1 0 (by omega)
      have t0 := hT 14 _ rfl
      have t1 := hT 15 _ rfl
      have t2 := hr2 14 _ l2
      have t3 := hr2 15 _ l3
      simp only [Nat.zero_add, Nat.zero_mul] at t0 t1 t2 t3
      generalize wr.heap.size = g at *
      have HK := Lib.hid (show K4 g t w2 w2 from ⟨t2, t3, t0, t1, Nat.le_refl _, Below.refl _ _⟩)
      have HIS := Lib.hid isw
      clear hr2 hb2 hT t0 t1 t2 t3 HRR HL HSZ HSZ2 HU HS l2 l3
      go_region_held3 (fun w' => w'.cell? ⟨g, 14, none⟩ = some (.string ⟨#[]⟩) ∧ w'.cell? ⟨g, 15, none⟩ = some (.int .u8 0) ∧ w'.cell? ⟨t, 14, none⟩ = some (.string ⟨#[]⟩) ∧ w'.cell? ⟨t, 15, none⟩ = some (.int .u8 0) ∧ w2.heap.size ≤ w'.heap.size ∧ Below w2.heap.size w2 w')
        (first | exact HK.out.keep (Below.refl _ _).drew | (refine K4.keep ?_ ‹Below _ _ _›; assumption))
        (first | (go_at_call 29; refine (HIS.out _).mono ?_; rintro e w' ⟨rfl, hb⟩))
      rename_i hH
      have HS3 := Lib.hid (HS2.out.keep hH.2.2.2.2.2)
      clear hH HK HS2
      go_wp2_with fail
      exact ⟨⟨j + 1, by omega, by go_num, HS3⟩, by simp [intOf]; omega⟩
    -- part>
  case rest =>
    clear HS
    have HS := hcut
    clear hcut
    go_upto_region 8 with fail
    go_cut [11] (fun v wd => ∃ g1, v = .slice (some ⟨g1, 0, none⟩) (mN q1) 4 ∧ Hid (T4 q1 mf g1 w wd) ∧ Hid (S1 q1 q2 ix imp t key w wd))
    case first =>
      -- <part
      have hcq := fun W => cq_any q1 HQ.out.1 mf W
      unfold tyV at hcq
      dsimp only at hcq
      have HCQ := Lib.hid hcq
      clear hcq
      have b0 := (HS.out.2.2.1 0 (by omega))
      have b1 := (HS.out.2.2.1 1 (by omega))
      have b2 := (HS.out.2.2.1 2 (by omega))
      have b3 := (HS.out.2.2.1 3 (by omega))
      obtain ⟨a00, a01, a02, a03, a04, a05, a06⟩ := cells7 (g := t) (o := 0) (x := (q1 0, 0)) (rg_left b0)
      obtain ⟨a10, a11, a12, a13, a14, a15, a16⟩ := cells7 (g := t) (o := 18) (x := (q1 1, 0)) (rg_left b1)
      obtain ⟨a20, a21, a22, a23, a24, a25, a26⟩ := cells7 (g := t) (o := 36) (x := (q1 2, 0)) (rg_left b2)
      obtain ⟨a30, a31, a32, a33, a34, a35, a36⟩ := cells7 (g := t) (o := 54) (x := (q1 3, 0)) (rg_left b3)
      simp only [Nat.reduceMul, Nat.reduceAdd, Nat.zero_add, Nat.zero_mul] at a00 a01 a02 a03 a04 a05 a06 a10 a11 a12 a13 a14 a15 a16 a20 a21 a22 a23 a24 a25 a26 a30 a31 a32 a33 a34 a35 a36
      clear b0 b1 b2 b3
      go_still_tail 25, (by kernel_rfl)
      change wpList _ _ _ _ _ _
      go_wp2_with fail
      refine (HCQ.out _).mono ?_
      rintro e w2 ⟨g1, rfl, hq⟩
      have hb : Below wc.heap.size wc w2 := below_of hq.2.2 rfl rfl rfl rfl
      have HS' := Lib.hid (HS.out.keep hb)
      have HG := Lib.hid (show T4 q1 mf g1 w w2 from ⟨hq.1, Nat.le_trans HS.out.2.1.size hq.2.1⟩)
      clear hq hb HS HCQ
      go_wp2_with fail
      go_meet
      exact ⟨g1, rfl, HG, HS'⟩
      -- part>
    case rest =>
    clear HS
    obtain ⟨g1, rfl, HG, HS⟩ := hcut
    go_upto_region 9 with fail
    go_cut [12] (fun v we => ∃ g2, v = .slice (some ⟨g2, 0, none⟩) (mN q2) 4 ∧ g1 ≠ g2 ∧ Hid (T4 q1 mf g1 w we) ∧ Hid (T4 q2 mf g2 w we) ∧ Hid (S1 q1 q2 ix imp t key w we))
    case first =>
      -- <part
      have hcq := fun W => cq_any q2 HQ.out.2 mf W
      unfold tyV at hcq
      dsimp only at hcq
      have HCQ := Lib.hid hcq
      clear hcq
      have b0 := (HS.out.2.2.1 0 (by omega))
      have b1 := (HS.out.2.2.1 1 (by omega))
      have b2 := (HS.out.2.2.1 2 (by omega))
      have b3 := (HS.out.2.2.1 3 (by omega))
      obtain ⟨a00, a01, a02, a03, a04, a05, a06⟩ := cells7 (g := t) (o := 7) (x := (q2 0, 0)) (rg_left (rg_right b0))
      obtain ⟨a10, a11, a12, a13, a14, a15, a16⟩ := cells7 (g := t) (o := 25) (x := (q2 1, 0)) (rg_left (rg_right b1))
      obtain ⟨a20, a21, a22, a23, a24, a25, a26⟩ := cells7 (g := t) (o := 43) (x := (q2 2, 0)) (rg_left (rg_right b2))
      obtain ⟨a30, a31, a32, a33, a34, a35, a36⟩ := cells7 (g := t) (o := 61) (x := (q2 3, 0)) (rg_left (rg_right b3))
      simp only [Nat.reduceMul, Nat.reduceAdd, Nat.zero_add, Nat.zero_mul] at a00 a01 a02 a03 a04 a05 a06 a10 a11 a12 a13 a14 a15 a16 a20 a21 a22 a23 a24 a25 a26 a30 a31 a32 a33 a34 a35 a36
      clear b0 b1 b2 b3
      go_still_tail 25, (by kernel_rfl)
      change wpList _ _ _ _ _ _
      go_wp2_with fail
      refine (HCQ.out _).mono ?_
      rintro e w3 ⟨g2, rfl, hq⟩
      have hb : Below wc.heap.size wc w3 := below_of hq.2.2 rfl rfl rfl rfl
      have HS' := Lib.hid (HS.out.keep hb)
      have HG1 := Lib.hid (HG.out.keep hb)
      have HG2 := Lib.hid (show T4 q2 mf g2 w w3 from ⟨hq.1, Nat.le_trans HS.out.2.1.size hq.2.1⟩)
      have hg12 : g1 ≠ g2 := by have := HG.out.1.lt; have h2 : wc.heap.size ≤ g2 := hq.2.1; omega
      clear hq hb HS HCQ HG
      go_wp2_with fail
      go_meet
      exact ⟨g2, rfl, hg12, HG1, HG2, HS'⟩
      -- part>
    case rest =>
    clear HS HG
    obtain ⟨g2, rfl, hg12, HG1, HG2, HS⟩ := hcut
    have m1 := mN_le q1
    have m2 := mN_le q2
    go_upto_if 135 with (first | (go_at_call 28; refine (te_any g1 g2 (mN q1) (mN q2) 4 4 (fun i => (q1 i, wsv mf (mN q1) i)) (fun i => (q2 i, wsv mf (mN q2) i)) wc (fun i hi => HQ.out.1 i (by omega)) (fun i hi => HQ.out.2 i (by omega)) HG1.out.tr HG2.out.tr (by omega) (by omega)).mono ?_; rintro e wt ⟨b, rfl, hbq, hb⟩))
    have hq : qeq q1 q2 = b := Bool.eq_iff_iff.2 (qeq_min.trans hbq.symm)
    have HG1' := Lib.hid (HG1.out.keep hb)
    have HG2' := Lib.hid (HG2.out.keep hb)
    have HS' := Lib.hid (HS.out.keep hb)
    clear hbq hb HG1 HG2 HS
    have HG1 := HG1'
    have HG2 := HG2'
    have HS := HS'
    clear HG1' HG2' HS'
    go_cut [11] (fun v wv => ∃ g nv c X, v = .slice (some ⟨g, 0, none⟩) nv c ∧ Hid (VX q1 q2 mf nv X) ∧ Hid (TR wv g nv X ∧ w.heap.size ≤ g) ∧ Hid (S1 q1 q2 ix imp t key w wv))
    case first =>
      -- <part
      cases b with
      | true =>
        go_wp2_with fail
        go_meet
        exact ⟨g1, mN q1, 4, _, rfl, Lib.hid (.inl ⟨hq, rfl, fun i hi => rfl⟩), Lib.hid ⟨HG1.out.tr, HG1.out.2⟩, HS⟩
      | false =>
        have hWS : ∀ b : Bool, b = mf → (if b = true then (0 : Int) else 3) = if mf = true then 0 else 3 := fun b e => by rw [e]
        go_upto_if 137 with fail
        go_cut [13] (fun v wv => v = .int .u8 (if mf = true then 0 else 3) ∧ wv = wt)
        case first =>
          cases mf with
          | true =>
            go_wp2_with fail
            go_meet
            exact ⟨rfl, rfl⟩
          | false =>
            go_wp2_with fail
            go_meet
            exact ⟨rfl, rfl⟩
        case rest =>
        obtain ⟨rfl, rfl⟩ := hcut
        obtain ⟨k, hk⟩ : ∃ k, mN q1 = k + 1 := ⟨mN q1 - 1, by omega⟩
        have hk1 : ((mN q1 : Nat) : Int) - 1 = (k : Int) := by omega
        have k0 : (0 : Int) ≤ k := by omega
        have k1 : (k : Int) < (mN q1 : Nat) := by omega
        have cl := HG1.out.tr k (by omega) 2 _ rfl
        obtain ⟨ws, hws⟩ : ∃ ws, (if mf = true then (0 : Int) else 3) = ws := ⟨_, rfl⟩
        rw [hws]
        obtain ⟨i0, hi, hz0, hz1, hz2⟩ := info_parts tok_info
        have HI0 := Lib.hid (And.intro hi (And.intro hz0 (And.intro hz1 hz2)))
        clear hi hz0 hz1 hz2 hWS
        have al : ∀ o : Obj, Below wc.heap.size wc (wc.alloc o) := fun o => (Below.refl _ _).alloc (Nat.le_refl _) o
        have HO1 := Lib.hid fun o => own_keep HG1.out.own (al o)
        have HSA := Lib.hid fun o => HS.out.keep (al o)
        have HGA := Lib.hid fun o => HG2.out.keep (al o)
        have HZ := Lib.hid fun o => Nat.le_trans HS.out.2.1.size (al o).size
        clear al HG1 HG2 HS
        go_upto_region 15 with (first
          | (at_builtin
             refine wpList_append_own_at _ rfl (.tmp 138) (.tmp 148) _ rfl w.heap.size 39 i0 _ 7 40 Tryd.underlying30 HI0.out.1 HI0.out.2.1 HI0.out.2.2.1 HI0.out.2.2.2 rfl (by omega) (.slice (some ⟨g1, 0, none⟩) (mN q1) 4) (mN q1) (rowg (tqF q1 (wsk mf (mN q1) (mN q1))) (mN q1)) (by rfl) (HO1.out _) ⟨wc.heap.size, 0, none⟩ 1 1 (tyR (7, ws)) (by rfl) (by rfl) (World.news_of_block (cs := #[.pointer none, .string ⟨#[47]⟩, .int .i32 0, .int .u32 0, .int .u16 0, .int .u8 24, .int .u8 ws]) (heap_alloc_new wc _)) (tyR_one _) (by unfold maxLen; omega) (by omega) (HZ.out _) ?_
             intro v1 w5 hown hgrow hnil hat
             have HS5 := Lib.hid ((HSA.out _).grown htl (HO1.out _) hgrow)
             have HG5 := Lib.hid ((HGA.out _).grown hgrow hg12)
             have HO5 := Lib.hid hown
             have HZ5 := Lib.hid (Nat.le_trans (HZ.out _) hgrow.size)
             clear hown hgrow hnil hat HO1 HSA HGA HZ))
        go_wp2_with (first
          | (at_builtin
             refine wpList_append_own_at _ rfl (.tmp 150) (.tmp 151) _ rfl w.heap.size 39 i0 _ 7 40 Tryd.underlying30 HI0.out.1 HI0.out.2.1 HI0.out.2.2.1 HI0.out.2.2.2 rfl (by omega) v1 (mN q1 + 1) (rowg (tqF q1 (wsk mf (mN q1) (mN q1))) (mN q1) ++ tyR (7, ws)) (by rfl) HO5.out ⟨g2, 0, none⟩ (mN q2) 4 (rowg (tqF q2 (wsk mf (mN q2) (mN q2))) (mN q2)) (by rfl) (rowg_len _ (tqF_len _ _) _) HG5.out.news (rowg_one _ (fun i => tyR_one _) _) (by unfold maxLen; omega) (by omega) HZ5.out ?_
             intro v2 w6 hown hgrow hnil hat
             have HS6 := Lib.hid (HS5.out.grown htl HO5.out hgrow)
             have HO6 := Lib.hid hown
             clear hown hgrow hnil hat))
        go_meet
        have ho := HO6.out
        rw [← hws, row_eq] at ho
        obtain ⟨g, c, rfl, hg, htr⟩ := own_tr ho (by omega)
        exact ⟨g, _, c, _, rfl, Lib.hid (Xs_ok hq), Lib.hid ⟨htr, hg⟩, HS6⟩
      -- part>
    case rest =>
      clear HG1 HG2 HS hq
      obtain ⟨g, nv, cv, X, rfl, HV, HTR, HS⟩ := hcut
      have hnv : 0 < nv := by rcases HV.out with ⟨_, e, _⟩ | ⟨_, e, _⟩ <;> omega
      have hrl : r < w.heap.size := th_lt HW.out.2.2 (by have := HI.out.1 0 (by omega); omega)
      have hgl : g < wc.heap.size := HTR.out.1.lt hnv
      have hkl := HS.out.1.lt
      have hal : Below wc.heap.size wc (wc.alloc (.cells #[.int .i32 0] 33)) := (Below.refl _ _).alloc (Nat.le_refl _) _
      have h5 : S5 q1 q2 ix imp t key r n g nv X wc.heap.size (rk R ix 0) (mz ix lc 0) w (wc.alloc (.cells #[.int .i32 0] 33)) := by
        rw [rk_zero]
        exact ⟨HS.out.1.keep hal, gb_then (gb_below HS.out.2.1) hal, HS.out.2.2.keep hal, (HW.out.2.1.keep HS.out.2.1).keep hal, th_keep hal (th_keep HS.out.2.1 HW.out.2.2), HTR.out.1.keep hal, heap_alloc_new wc _⟩
      have HD : Hid (t ≠ r ∧ t < w.heap.size ∧ r < w.heap.size ∧ w.heap.size ≤ g ∧ w.heap.size < wc.heap.size ∧ wc.heap.size ≠ g) := Lib.hid ⟨HW.out.1, htl, hrl, HTR.out.2, hkl, by omega⟩
      go_upto_region 17 with fail
      generalize World.alloc wc _ = wm at *
      generalize wc.heap.size = mb at *
      have H5 := Lib.hid h5
      clear h5 hal hkl hgl HS HTR
      obtain ⟨dq, hq1, hq2⟩ := tyQd
      have HQD := Lib.hid hq1
      have HTQ := Lib.hid H5.out.2.2.1.2.2
      clear hq1
      go_upto_block 2 with (first | (refine wpList_load_mid rfl 67 _ rfl t 0 rfl (qdR q1 q2 ix true) dq HTQ.out HQD.out hq2 szQd ?_))
      clear HQD HTQ
      go_cut [] (fun wn => Hid (S5 q1 q2 ix imp t key r n g nv X mb (rk R ix 4) (mz ix lc 4) w wn))
      case first =>
        -- <part
        go_wp2_with fail
        go_loopw [157] (fun iv wr => ∃ k : Nat, k ≤ 4 ∧ iv = .int .i64 k ∧ Hid (S5 q1 q2 ix imp t key r n g nv X mb (rk R ix k) (mz ix lc k) w wr)) (fun iv _ => 4 - (intOf iv).toNat)
        case atStart => exact ⟨0, by omega, rfl, H5⟩
        case round =>
          clear H5
          obtain ⟨k, hk, rfl, HT⟩ := hrel
          by_cases hlt : k < 4
          case neg =>
            obtain rfl : k = 4 := by omega
            go_wp2_with fail
            go_meet
            exact HT
          have p0 : (0 : Int) ≤ k := by omega
          have p1 : (k : Int) < 4 := by omega
          obtain ⟨c, hc⟩ : ∃ c, cnR (q1 k) (q2 k) (ix k) true = c := ⟨_, rfl⟩
          obtain ⟨i, hi⟩ : ∃ i, ix k = i := ⟨_, rfl⟩
          have hx := fun W => ix_any q1 q2 ix true k hlt W
          rw [hc] at hx
          rw [hi] at hc
          have l0 : c.length = 18 := by rw [← hc]; rfl
          have l1 : c.toArray.all (·.oneCell') = true := by rw [← hc]; exact cnR_one _ _ _ _
          have l2 : c[16]? = some (.int .u32 (i : Int)) := by rw [← hc]; rfl
          have hsz2 : (Tryd.prog.info? 66).map (·.size) = some c.toArray.size := by rw [List.size_toArray, l0]; exact szCn
          have HL := Lib.hid (And.intro l0 l1)
          have HSZ2 := Lib.hid hsz2
          have HX := Lib.hid hx
          clear hc hx l0 l1 hsz2
          go_upto_region 20 with (first | (refine wpl_index rfl 67 _ _ rfl (.agg (qdR q1 q2 ix true).toArray) (.int .i64 (k : Int)) _ rfl rfl (HX.out _) ?_) | (refine wpList_store_mid rfl 66 _ _ rfl wr.heap.size 0 c.toArray rfl rfl (th_new wr _ _ (by rw [List.size_toArray, HL.out.1]; rfl)) HSZ2.out HL.out.2 ?_))
          change Code.wp _ _ _ (Act.mk _ _) _
          generalize hw2 : World.setCells (World.alloc wr _) _ 0 c = w2
          have hr2 : w2.rangeAt wr.heap.size 0 c := by rw [← hw2]; exact World.rangeAt_setCells_same _ _ _ _ (th_new wr _ _ (by rw [HL.out.1]; rfl))
          have hb2 : Below wr.heap.size wr w2 := by rw [← hw2]; exact below_setCells (Nat.le_refl _) _ _ ((Below.refl _ _).alloc (Nat.le_refl _) _)
          clear hw2
          have HT2 := Lib.hid (HT.out.keep hb2)
          have hmc : mb ≠ wr.heap.size := by have := HT.out.2.2.2.2.2.2.lt; omega
          have t2 := hr2 16 _ l2
          rw [Nat.zero_add] at t2
          generalize wr.heap.size = cb at *
          have hin : i < n := by rw [← hi]; exact HI.out.1 k hlt
          obtain ⟨r0, r1⟩ := HT2.out.2.2.2.1.cells hin
          have hl := rk_lz (R := R) (ix := ix) (lc := lc) (k := k) (HI.out.2 k hlt)
          rw [hi] at hl
          rw [hl] at r1
          have hmz : mz ix lc (k + 1) = if k = 0 ∨ lz ix lc k < mz ix lc k then lz ix lc k else mz ix lc k := rfl
          have hrk : rk R ix (k + 1) = upR (rk R ix k) i (none, 0) := by funext j; rw [rk_succ, hi]; rfl
          obtain ⟨l, hlz⟩ : ∃ l, lz ix lc k = l := ⟨_, rfl⟩
          obtain ⟨m, hm⟩ : ∃ m, mz ix lc k = m := ⟨_, rfl⟩
          rw [hlz] at r1 hmz
          rw [hm] at hmz HT2
          have p2 : (0 : Int) ≤ i := by omega
          have p3 : (i : Int) < n := by omega
          have HR := Lib.hid (And.intro hmz hrk)
          have t3 : ∀ o, (w2.alloc o).cell? ⟨cb, 16, none⟩ = some (.int .u32 (i : Int)) := fun o => alloc_cell t2 o
          clear hr2 hb2 HT HL HSZ2 HX l2 hl hlz hm hmz hrk r0
          go_upto_region 21 with fail
          have HT3 := Lib.hid (HT2.out.keep ((Below.refl _ _).alloc (Nat.le_refl _) (.cells #[.int .i32 l] 33)))
          have c1 := Bk.cell (heap_alloc_new w2 (.cells #[.int .i32 l] 33)) 0 rfl
          have c2 := t3 (.cells #[.int .i32 l] 33)
          have c3 := HT3.out.2.2.2.2.2.2.cell 0 rfl
          have f3 := HT3.out.2.2.2.2.2.2.frozen 0
          clear t3 t2 HT2 r1
          generalize World.alloc w2 _ = w3 at *
          generalize w2.heap.size = lb at *
          by_cases h0 : k = 0
          · have HN : Hid (mz ix lc (k + 1) = l) := Lib.hid (by rw [HR.out.1, if_pos (Or.inl h0)])
            have h0b : ((k : Int) == 0) = true := by rw [beq_iff_eq]; omega
            go_upto_region 23 with fail
            have H4 := Lib.hid (HT3.out.setm HD.out.2.1 HD.out.2.2.1 HD.out.2.2.2.2.1 HD.out.2.2.2.2.2 l)
            have c4 := cell_other (p := ⟨mb, 0, none⟩) (x := .int .i32 l) c2 hmc
            generalize World.setCell w3 _ _ = w4 at *
            have HRT := Lib.hid (th_sub (o' := i * 2) (m := 2) H4.out.2.2.2.2.1 (by omega) (by omega))
            have H6 := Lib.hid (H4.out.put HD.out.1 HD.out.2.2.1 HD.out.2.2.2.2.1 HD.out.2.2.2.1 hin (none, 0))
            rw [← HR.out.2, ← HN.out] at H6
            clear H4 HT3 c1 c2 c3 f3 HN
            go_wp2_with (first | (refine wpList_store_mid rfl 49 _ _ rfl r (i * 2) #[.nilIface, .int .i32 0] rfl rfl HRT.out szRu ruZ_one ?_))
            exact ⟨⟨k + 1, by omega, by go_num, H6⟩, by simp [intOf]; omega⟩
          · have h0b : ((k : Int) == 0) = false := beq_eq_false_iff_ne.mpr (by omega)
            by_cases hm : l < m
            · have HN : Hid (mz ix lc (k + 1) = l) := Lib.hid (by rw [HR.out.1, if_pos (Or.inr hm)])
              go_upto_region 23 with fail
              have H4 := Lib.hid (HT3.out.setm HD.out.2.1 HD.out.2.2.1 HD.out.2.2.2.2.1 HD.out.2.2.2.2.2 l)
              have c4 := cell_other (p := ⟨mb, 0, none⟩) (x := .int .i32 l) c2 hmc
              generalize World.setCell w3 _ _ = w4 at *
              have HRT := Lib.hid (th_sub (o' := i * 2) (m := 2) H4.out.2.2.2.2.1 (by omega) (by omega))
              have H6 := Lib.hid (H4.out.put HD.out.1 HD.out.2.2.1 HD.out.2.2.2.2.1 HD.out.2.2.2.1 hin (none, 0))
              rw [← HR.out.2, ← HN.out] at H6
              clear H4 HT3 c1 c2 c3 f3 HN
              go_wp2_with (first | (refine wpList_store_mid rfl 49 _ _ rfl r (i * 2) #[.nilIface, .int .i32 0] rfl rfl HRT.out szRu ruZ_one ?_))
              exact ⟨⟨k + 1, by omega, by go_num, H6⟩, by simp [intOf]; omega⟩
            · have HN : Hid (mz ix lc (k + 1) = m) := Lib.hid (by rw [HR.out.1, if_neg (by omega)])
              go_upto_region 23 with fail
              have H4 := HT3
              have c4 := c2
              obtain ⟨w4, hw4⟩ : ∃ w4, w3 = w4 := ⟨_, rfl⟩
              subst hw4
              have HRT := Lib.hid (th_sub (o' := i * 2) (m := 2) H4.out.2.2.2.2.1 (by omega) (by omega))
              have H6 := Lib.hid (H4.out.put HD.out.1 HD.out.2.2.1 HD.out.2.2.2.2.1 HD.out.2.2.2.1 hin (none, 0))
              rw [← HR.out.2, ← HN.out] at H6
              clear H4 HT3 c1 c2 c3 f3 HN
              go_wp2_with (first | (refine wpList_store_mid rfl 49 _ _ rfl r (i * 2) #[.nilIface, .int .i32 0] rfl rfl HRT.out szRu ruZ_one ?_))
              exact ⟨⟨k + 1, by omega, by go_num, H6⟩, by simp [intOf]; omega⟩
        -- part>
      case rest =>
        clear H5
        have HT := hcut
        clear hcut
        obtain ⟨i, hi⟩ : ∃ i, ix 3 = i := ⟨_, rfl⟩
        obtain ⟨m, hm⟩ : ∃ m, mz ix lc 4 = m := ⟨_, rfl⟩
        rw [hm] at HT
        have hin : i < n := by rw [← hi]; exact HI.out.1 3 (by omega)
        have a0 := HT.out.2.2.1.1 3 (by omega) 16 _ rfl
        rw [hi] at a0
        simp only [Nat.reduceMul, Nat.reduceAdd] at a0
        have a1 := HT.out.2.2.1.2.1
        have a2 := HT.out.2.2.2.2.2.2.cell 0 rfl
        have a3 := HT.out.1.cell 0 rfl
        have a4 := HT.out.1.cell 1 rfl
        have hmr : mb ≠ r := by have := HD.out; omega
        have hkr : w.heap.size ≠ r := by have := HD.out; omega
        have ne : ∀ {x : Nat}, x ≠ r → some x ≠ some r := fun h e => h (by injection e)
        have HQ2 : Hid (∀ w' : World, wc.grownBy w' (some r) → w'.cell? ⟨t, 70, none⟩ = some (.int .u32 (i : Int)) ∧ w'.cell? ⟨t, 72, none⟩ = some (.bool imp) ∧ w'.cell? ⟨mb, 0, none⟩ = some (.int .i32 m) ∧ w'.cell? ⟨w.heap.size, 0, none⟩ = some (.int .i32 key) ∧ w'.cell? ⟨w.heap.size, 1, none⟩ = some (.int .i32 3)) :=
          Lib.hid fun w' hg => ⟨hg.cell a0 (ne HD.out.1), hg.cell a1 (ne HD.out.1), hg.cell a2 (ne hmr), hg.cell a3 (ne hkr), hg.cell a4 (ne hkr)⟩
        have th := HT.out.2.2.2.2.1
        obtain ⟨v0, e0⟩ := Option.isSome_iff_exists.1 (th (i * 2) (by omega)).1
        obtain ⟨v1, e1⟩ := Option.isSome_iff_exists.1 (th (i * 2 + 1) (by omega)).1
        rw [Nat.zero_add] at e0 e1
        have al : ∀ o : Obj, Below wc.heap.size wc (wc.alloc o) := fun o => (Below.refl _ _).alloc (Nat.le_refl _) o
        have g0 : ∀ o, (wc.alloc o).cell? ⟨r, i * 2, none⟩ = some v0 := fun o => alloc_cell e0 o
        have g1 : ∀ o, (wc.alloc o).cell? ⟨r, i * 2 + 1, none⟩ = some v1 := fun o => alloc_cell e1 o
        have f0 : ∀ o, (wc.alloc o).frozen? ⟨r, i * 2, none⟩ = false := fun o => by have := (th_keep (al o) th (i * 2) (by omega)).2; rwa [Nat.zero_add] at this
        have f1 : ∀ o, (wc.alloc o).frozen? ⟨r, i * 2 + 1, none⟩ = false := fun o => by have := (th_keep (al o) th (i * 2 + 1) (by omega)).2; rwa [Nat.zero_add] at this
        have p2 : (0 : Int) ≤ i := by omega
        have p3 : (i : Int) < n := by omega
        clear a0 a1 a2 a3 a4 e0 e1 al th ne
        go_upto_region 25 with fail
        go_region_held3 (fun w' => w'.cell? ⟨t, 70, none⟩ = some (.int .u32 (i : Int)) ∧ w'.cell? ⟨t, 72, none⟩ = some (.bool imp) ∧ w'.cell? ⟨mb, 0, none⟩ = some (.int .i32 m) ∧ w'.cell? ⟨w.heap.size, 0, none⟩ = some (.int .i32 key) ∧ w'.cell? ⟨w.heap.size, 1, none⟩ = some (.int .i32 3))
          (first | (refine HQ2.out _ ?_; repeat (first | with_reducible exact gb_refl _ _ | with_reducible apply gb_drew | with_reducible apply gb_al | with_reducible apply gb_set)))
          (fail)
        have hal : Below wc.heap.size wc (wc.alloc (.cells (dcR (.slice (some ⟨g, 0, none⟩) nv cv) key imp).toArray 45)) := (Below.refl _ _).alloc (Nat.le_refl _) _
        have hbk : Bk (wc.alloc (.cells (dcR (.slice (some ⟨g, 0, none⟩) nv cv) key imp).toArray 45)) wc.heap.size 45 (dcR (.slice (some ⟨g, 0, none⟩) nv cv) key imp).toArray := heap_alloc_new wc _
        have hd : w.heap.size ≤ wc.heap.size := HT.out.2.1.size
        have hdr : wc.heap.size ≠ r := by have := HD.out; omega
        have H6 := (HT.out.keep hal).put HD.out.1 HD.out.2.2.1 HD.out.2.2.2.2.1 HD.out.2.2.2.1 hin (some wc.heap.size, m)
        have hbk2 := (hbk.far (p := ⟨r, i * 2, none⟩) hdr (dv (some wc.heap.size))).far (p := ⟨r, i * 2 + 1, none⟩) hdr (.int .i32 m)
        go_wp2_with fail
        (try simp only [Exit.inBlock, Exit.then])
        refine bodyPost_end (results_none rfl _ _ _) rfl ?_
        have H7 := H6.drew
        refine ⟨rfl, wc.heap.size, g, nv, cv, X, ?_, hbk2, HV.out, H7.2.2.2.2.2.1, hd, H7.2.1⟩
        rw [hi, hm]
        exact H7.2.2.2.1
end Go.Proofs.YtmaljklijpoojaaDoor.Co
