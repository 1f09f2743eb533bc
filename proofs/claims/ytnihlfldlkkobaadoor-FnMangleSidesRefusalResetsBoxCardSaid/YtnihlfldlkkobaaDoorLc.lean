/-
  compactRules over a box of four equal sides.
-/
import Derived.Test.YtnihlfldlkkobaaDoorLa
import Derived.StillTailTactics
namespace Go.Proofs.YtnihlfldlkkobaaDoor.Bx
open Go.ChangeShapes Go.WideShapes Go.ChangeAt Go.RowKit Rg Quad
set_option linter.unusedVariables false
set_option linter.unusedSimpArgs false
/-- what compactRules leaves -/
def CrB (kt : ByteArray) (aa imp : Bool) (key : Int) (x b r n : Nat) (R : Nat → RU) (w w' : World) : Prop :=
  ∃ d m, RR w' r n (upR R x (some d, m)) ∧ BB kt aa imp key (fun _ => s1 x) b w' ∧ w.heap.size ≤ d ∧ w.grownBy w' (some r)
set_option maxRecDepth 100000 in
set_option maxHeartbeats 8000000 in
theorem cb_any (b r n cr x : Nat) (kt : ByteArray) (aa imp mf : Bool) (key a2 a3 : Int) (R : Nat → RU) (w : World)
    (hB : BB kt aa imp key (fun _ => s1 x) b w) (hk : ¬ key = 0) (hbr : b ≠ r) (hR : RR w r n R) (hth : w.there r 0 (n * 2)) (hxn : x < n) :
    Calls Tryd.prog 25 #[.pointer (some ⟨b, 0, none⟩), .slice (some ⟨r, 0, none⟩) n cr, .agg #[.int .i32 a2, .int .i32 a3], .bool mf] w fun e w' => e = .returned (.tuple #[]) ∧ CrB kt aa imp key x b r n R w w' := by
  have hbl : b < w.heap.size := World.block_lt_of_cell? w _ hB.1
  have hrl : r < w.heap.size := th_lt hth (by omega)
  have HW := Lib.hid (And.intro hbr (And.intro hR (And.intro hth (And.intro hbl hrl))))
  have hK : Bk (w.alloc (.cells #[.int .i32 a2, .int .i32 a3] 46)) w.heap.size 46 #[.int .i32 a2, .int .i32 a3] := heap_alloc_new w _
  have hb : Below w.heap.size w (w.alloc (.cells #[.int .i32 a2, .int .i32 a3] 46)) := (Below.refl _ _).alloc (Nat.le_refl _) _
  have hT := hB.keep hb
  clear hbr hR hth hB hbl hrl
  go_enter Tryd.func25, Tryd.ntmps25
  go_upto_region 1 with fail
  generalize World.alloc w _ = w1 at *
  have HS := Lib.hid (show SB kt aa imp key x b a2 a3 w w1 from ⟨hK, hb, hT⟩)
  have ky := hT.2.2.2.2.1
  have x4 : (key == 0) = false := beq_eq_false_iff_ne.mpr hk
  obtain ⟨y, hy⟩ : ∃ y, tK 0 = y := ⟨_, rfl⟩
  have y0 : (y == 0) = false := by rw [← hy]; rfl
  have k0 : w1.cell? ⟨b, 6, none⟩ = some (.int .u8 y) := by rw [← hy]; exact hT.2.1 0 (by omega) 5 _ rfl
  have k1 : w1.cell? ⟨b, 17, none⟩ = some (.int .u8 y) := by rw [← hy]; exact hT.2.1 1 (by omega) 5 _ rfl
  have k2 : w1.cell? ⟨b, 28, none⟩ = some (.int .u8 y) := by rw [← hy]; exact hT.2.1 2 (by omega) 5 _ rfl
  have k3 : w1.cell? ⟨b, 39, none⟩ = some (.int .u8 y) := by rw [← hy]; exact hT.2.1 3 (by omega) 5 _ rfl
  clear hy
  clear hK hb hT hk
  go_upto_block 0 with fail
  clear k0 k1 k2 k3 ky x4 y0
  go_cut [] (fun wc => Hid (SB kt aa imp key x b a2 a3 w wc))
  case first =>
    -- <part
    go_wp2_with fail
    go_loopw [68] (fun iv wr => ∃ j : Nat, j ≤ 3 ∧ iv = .int .i64 j ∧ Hid (SB kt aa imp key x b a2 a3 w wr)) (fun iv _ => 3 - (intOf iv).toNat)
    case atStart => exact ⟨0, by omega, rfl, HS⟩
    case round =>
      clear HS
      obtain ⟨j, hj, rfl, HS⟩ := hrel
      by_cases hlt : j < 3
      case neg =>
        obtain rfl : j = 3 := by omega
        go_wp2_with fail
        go_meet
        exact HS
      have q0 : (0 : Int) ≤ j := by omega
      have q3 : (j : Int) < 3 := by omega
      obtain ⟨c, hc⟩ : ∃ c, sdR (s1 x) = c := ⟨_, rfl⟩
      have hr := HS.out.2.2.2.1 (j + 1) (by omega)
      rw [show 1 + (j + 1) * 11 = 12 + j * 11 by omega, hc] at hr
      have l0 : c.length = 11 := by rw [← hc]; rfl
      have l1 : c.toArray.all (·.oneCell') = true := by rw [← hc]; exact sdG_one _ _ _ _ _ _
      have l2 : c[7]? = some (.string ⟨#[]⟩) := by rw [← hc]; rfl
      have l3 : c[8]? = some (.int .u8 0) := by rw [← hc]; rfl
      have hsz : (Tryd.prog.info? 67).map (·.size) = some c.length := by rw [l0]; exact szSd
      obtain ⟨du, hu, hu2⟩ := tySd
      clear hc
      have hsz2 : (Tryd.prog.info? 67).map (·.size) = some c.toArray.size := by rw [List.size_toArray]; exact hsz
      have HL := Lib.hid (And.intro l0 l1)
      have HSZ2 := Lib.hid hsz2
      have HRR := Lib.hid hr
      have HSZ := Lib.hid hsz
      have HU := Lib.hid hu
      clear hr hsz hu hsz2 l0 l1
      go_upto_region 7 with (first | (refine wpList_load_mid rfl 67 _ rfl b (12 + j * 11) rfl c du HRR.out HU.out hu2 HSZ.out ?_) | (refine wpList_store_mid rfl 67 _ _ rfl wr.heap.size 0 c.toArray rfl rfl (th_new wr _ _ (by rw [List.size_toArray, HL.out.1]; rfl)) HSZ2.out HL.out.2 ?_))
      change Code.wp _ _ _ (Act.mk _ _) _
      generalize hw2 : World.setCells (World.alloc wr _) _ 0 c = w2
      have hr2 : w2.rangeAt wr.heap.size 0 c := by rw [← hw2]; exact World.rangeAt_setCells_same _ _ _ _ (th_new wr _ _ (by rw [HL.out.1]; rfl))
      have hb2 : Below wr.heap.size wr w2 := by rw [← hw2]; exact below_setCells (Nat.le_refl _) _ _ ((Below.refl _ _).alloc (Nat.le_refl _) _)
      clear hw2
      have HS2 := Lib.hid (HS.out.keep hb2)
      have hT := HS2.out.2.2.2.1 0 (by omega)
      have t0 := hT 7 _ rfl
      have t1 := hT 8 _ rfl
      have t2 := hr2 7 _ l2
      have t3 := hr2 8 _ l3
      simp only [Nat.zero_add, Nat.zero_mul, Nat.add_zero, Nat.reduceAdd] at t0 t1 t2 t3
      generalize wr.heap.size = g at *
      have HK := Lib.hid (show K4 g b w2 w2 from ⟨t2, t3, t0, t1, Nat.le_refl _, Below.refl _ _⟩)
      have HIS := Lib.hid isw
      clear hr2 hb2 hT t0 t1 t2 t3 HRR HL HSZ HSZ2 HU HS l2 l3
      go_region_held3 (fun w' => w'.cell? ⟨g, 7, none⟩ = some (.string ⟨#[]⟩) ∧ w'.cell? ⟨g, 8, none⟩ = some (.int .u8 0) ∧ w'.cell? ⟨b, 8, none⟩ = some (.string ⟨#[]⟩) ∧ w'.cell? ⟨b, 9, none⟩ = some (.int .u8 0) ∧ w2.heap.size ≤ w'.heap.size ∧ Below w2.heap.size w2 w')
        (first | exact HK.out.keep (Below.refl _ _).drew | (refine K4.keep ?_ ‹Below _ _ _›; assumption))
        (first | (go_at_call 29; refine (HIS.out _).mono ?_; rintro e w' ⟨rfl, hb⟩))
      rename_i hH
      have HS3 := Lib.hid (HS2.out.keep hH.2.2.2.2.2)
      clear hH HK HS2
      go_wp2_with fail
      exact ⟨⟨j + 1, by omega, by go_num, HS3⟩, by simp [intOf]; omega⟩
    -- part>
  case rest =>
    clear HS
    have HS := hcut
    clear hcut
    go_upto_region 9 with fail
    go_cut [11] (fun v wd => ∃ g nv cv, v = .slice (some ⟨g, 0, none⟩) nv cv ∧ Hid (SB kt aa imp key x b a2 a3 w wd))
    case first =>
      -- <part
      have hcq := fun W => cq_any (fun _ => 0) (fun _ _ => by decide) mf W
      unfold tyV at hcq
      dsimp only at hcq
      have HCQ := Lib.hid hcq
      clear hcq
      have b0 := (HS.out.2.2.2.1 0 (by omega))
      have b1 := (HS.out.2.2.2.1 1 (by omega))
      have b2 := (HS.out.2.2.2.1 2 (by omega))
      have b3 := (HS.out.2.2.2.1 3 (by omega))
      rw [sd_tok] at b0 b1 b2 b3
      obtain ⟨a00, a01, a02, a03, a04, a05, a06⟩ := cells7 (g := b) (o := 1) (x := (0, 0)) (rg_left b0)
      obtain ⟨a10, a11, a12, a13, a14, a15, a16⟩ := cells7 (g := b) (o := 12) (x := (0, 0)) (rg_left b1)
      obtain ⟨a20, a21, a22, a23, a24, a25, a26⟩ := cells7 (g := b) (o := 23) (x := (0, 0)) (rg_left b2)
      obtain ⟨a30, a31, a32, a33, a34, a35, a36⟩ := cells7 (g := b) (o := 34) (x := (0, 0)) (rg_left b3)
      simp only [Nat.reduceMul, Nat.reduceAdd, Nat.zero_add, Nat.zero_mul] at a00 a01 a02 a03 a04 a05 a06 a10 a11 a12 a13 a14 a15 a16 a20 a21 a22 a23 a24 a25 a26 a30 a31 a32 a33 a34 a35 a36
      clear b0 b1 b2 b3
      go_still_tail 25, (by kernel_rfl)
      change wpList _ _ _ _ _ _
      go_wp2_with fail
      refine (HCQ.out _).mono ?_
      rintro e w2 ⟨g1, rfl, hq⟩
      have hb : Below wc.heap.size wc w2 := below_of hq.2.2 rfl rfl rfl rfl
      have HS' := Lib.hid (HS.out.keep hb)
      clear HS HCQ a00 a01 a02 a03 a04 a05 a06 a10 a11 a12 a13 a14 a15 a16 a20 a21 a22 a23 a24 a25 a26 a30 a31 a32 a33 a34 a35 a36
      go_wp2_with fail
      go_meet
      exact ⟨g1, _, _, rfl, HS'⟩
      -- part>
    case rest =>
    clear HS
    obtain ⟨g, nv, cv, rfl, HS⟩ := hcut
    have hkl := HS.out.1.lt
    have hal : Below wc.heap.size wc (wc.alloc (.cells #[.int .i32 0] 39)) := (Below.refl _ _).alloc (Nat.le_refl _) _
    have h5 : S5 kt aa imp key x b a2 a3 r n g wc.heap.size (rk R x 0) 0 w (wc.alloc (.cells #[.int .i32 0] 39)) :=
      ⟨HS.out.1.keep hal, gb_then (gb_below HS.out.2.1) hal, HS.out.2.2.keep hal, (HW.out.2.1.keep HS.out.2.1).keep hal, th_keep hal (th_keep HS.out.2.1 HW.out.2.2.1), heap_alloc_new wc _⟩
    have HD : Hid (b ≠ r ∧ b < w.heap.size ∧ r < w.heap.size ∧ w.heap.size < wc.heap.size) := Lib.hid ⟨HW.out.1, HW.out.2.2.2.1, HW.out.2.2.2.2, hkl⟩
    go_upto_region 11 with fail
    generalize World.alloc wc _ = wm at *
    generalize wc.heap.size = mb at *
    have H5 := Lib.hid h5
    clear h5 hal hkl HS HW
    obtain ⟨dq, hq1, hq2⟩ := tyQs
    have HQD := Lib.hid hq1
    have HTQ := Lib.hid H5.out.2.2.1.row
    clear hq1
    go_upto_block 2 with (first | (refine wpList_load_mid rfl 68 _ rfl b 1 rfl (qs x) dq HTQ.out HQD.out hq2 szQs ?_))
    clear HQD HTQ
    go_cut [] (fun wn => ∃ m, Hid (S5 kt aa imp key x b a2 a3 r n g mb (rk R x 4) m w wn))
    case first =>
      -- <part
      go_wp2_with fail
      go_loopw [113] (fun iv wr => ∃ (k : Nat) (m : Int), k ≤ 4 ∧ iv = .int .i64 k ∧ Hid (S5 kt aa imp key x b a2 a3 r n g mb (rk R x k) m w wr)) (fun iv _ => 4 - (intOf iv).toNat)
      case atStart => exact ⟨0, 0, by omega, rfl, H5⟩
      case round =>
        clear H5
        obtain ⟨k, m, hk, rfl, HT⟩ := hrel
        by_cases hlt : k < 4
        case neg =>
          obtain rfl : k = 4 := by omega
          go_wp2_with fail
          go_meet
          exact ⟨m, HT⟩
        have p0 : (0 : Int) ≤ k := by omega
        have p1 : (k : Int) < 4 := by omega
        obtain ⟨c, hc⟩ : ∃ c, sdR (s1 x) = c := ⟨_, rfl⟩
        have hx := fun W => ixs x k hlt W
        rw [hc] at hx
        have l0 : c.length = 11 := by rw [← hc]; rfl
        have l1 : c.toArray.all (·.oneCell') = true := by rw [← hc]; exact sdG_one _ _ _ _ _ _
        have l2 : c[9]? = some (.int .u32 (x : Int)) := by rw [← hc]; rfl
        have hsz2 : (Tryd.prog.info? 67).map (·.size) = some c.toArray.size := by rw [List.size_toArray, l0]; exact szSd
        have HL := Lib.hid (And.intro l0 l1)
        have HSZ2 := Lib.hid hsz2
        have HX := Lib.hid hx
        clear hc hx l0 l1 hsz2
        go_upto_region 14 with (first | (refine wpl_index rfl 68 _ _ rfl (.agg (qs x).toArray) (.int .i64 (k : Int)) _ rfl rfl (HX.out _) ?_) | (refine wpList_store_mid rfl 67 _ _ rfl wr.heap.size 0 c.toArray rfl rfl (th_new wr _ _ (by rw [List.size_toArray, HL.out.1]; rfl)) HSZ2.out HL.out.2 ?_))
        change Code.wp _ _ _ (Act.mk _ _) _
        generalize hw2 : World.setCells (World.alloc wr _) _ 0 c = w2
        have hr2 : w2.rangeAt wr.heap.size 0 c := by rw [← hw2]; exact World.rangeAt_setCells_same _ _ _ _ (th_new wr _ _ (by rw [HL.out.1]; rfl))
        have hb2 : Below wr.heap.size wr w2 := by rw [← hw2]; exact below_setCells (Nat.le_refl _) _ _ ((Below.refl _ _).alloc (Nat.le_refl _) _)
        clear hw2
        have HT2 := Lib.hid (HT.out.keep hb2)
        have hmc : mb ≠ wr.heap.size := by have := HT.out.2.2.2.2.2.lt; omega
        have t2 := hr2 9 _ l2
        rw [Nat.zero_add] at t2
        generalize wr.heap.size = cb at *
        obtain ⟨r0, r1⟩ := HT2.out.2.2.2.1.cells hxn
        obtain ⟨l, hl⟩ : ∃ l, (rk R x k x).2 = l := ⟨_, rfl⟩
        rw [hl] at r1
        have hrk := rk_next R x k
        have p2 : (0 : Int) ≤ x := by omega
        have p3 : (x : Int) < n := by omega
        have HR := Lib.hid hrk
        have t3 : ∀ o, (w2.alloc o).cell? ⟨cb, 9, none⟩ = some (.int .u32 (x : Int)) := fun o => alloc_cell t2 o
        clear hr2 hb2 HT HL HSZ2 HX l2 hl hrk r0
        go_upto_region 15 with fail
        have HT3 := Lib.hid (HT2.out.keep ((Below.refl _ _).alloc (Nat.le_refl _) (.cells #[.int .i32 l] 39)))
        have c1 := Bk.cell (heap_alloc_new w2 (.cells #[.int .i32 l] 39)) 0 rfl
        have c2 := t3 (.cells #[.int .i32 l] 39)
        have c3 := HT3.out.2.2.2.2.2.cell 0 rfl
        have f3 := HT3.out.2.2.2.2.2.frozen 0
        clear t3 t2 HT2 r1
        generalize World.alloc w2 _ = w3 at *
        generalize w2.heap.size = lb at *
        have hst := HT3.out.setm HD.out.2.1 HD.out.2.2.1 HD.out.2.2.2 l
        have c4 := cell_other (p := ⟨mb, 0, none⟩) (x := .int .i32 l) c2 hmc
        have HG := Lib.hid (And.intro hst c4)
        have HG2 := Lib.hid (And.intro HT3.out c2)
        clear hst c4
        by_cases h0 : k = 0
        · have h0b : ((k : Int) == 0) = true := by rw [beq_iff_eq]; omega
          clear h0
          go_upto_region 17 with fail
          have HT4 := HG
          clear HG HG2 HT3 c1 c2 c3 f3 hmc
          generalize World.setCell w3 _ _ = w4 at *
          have c2 := HT4.out.2
          have HRT := Lib.hid (th_sub (o' := x * 2) (m := 2) HT4.out.1.2.2.2.2.1 (by omega) (by omega))
          have H6 := Lib.hid (HT4.out.1.put HD.out.1 HD.out.2.2.1 HD.out.2.2.2 hxn (none, 0))
          rw [HR.out] at H6
          clear HT4
          go_wp2_with (first | (refine wpList_store_mid rfl 52 _ _ rfl r (x * 2) #[.nilIface, .int .i32 0] rfl rfl HRT.out szRu ruZ_one ?_))
          exact ⟨⟨k + 1, l, by omega, by go_num, H6⟩, by simp [intOf]; omega⟩
        · have h0b : ((k : Int) == 0) = false := beq_eq_false_iff_ne.mpr (by omega)
          clear h0
          by_cases hm : l < m
          · skip
            go_upto_region 17 with fail
            have HT4 := HG
            clear HG HG2 HT3 c1 c2 c3 f3 hmc
            generalize World.setCell w3 _ _ = w4 at *
            have c2 := HT4.out.2
            have HRT := Lib.hid (th_sub (o' := x * 2) (m := 2) HT4.out.1.2.2.2.2.1 (by omega) (by omega))
            have H6 := Lib.hid (HT4.out.1.put HD.out.1 HD.out.2.2.1 HD.out.2.2.2 hxn (none, 0))
            rw [HR.out] at H6
            clear HT4
            go_wp2_with (first | (refine wpList_store_mid rfl 52 _ _ rfl r (x * 2) #[.nilIface, .int .i32 0] rfl rfl HRT.out szRu ruZ_one ?_))
            exact ⟨⟨k + 1, l, by omega, by go_num, H6⟩, by simp [intOf]; omega⟩
          · skip
            go_upto_region 17 with fail
            have HT4 := HG2
            clear HG HG2 HT3 c1 c2 c3 f3 hmc
            have c2 := HT4.out.2
            have HRT := Lib.hid (th_sub (o' := x * 2) (m := 2) HT4.out.1.2.2.2.2.1 (by omega) (by omega))
            have H6 := Lib.hid (HT4.out.1.put HD.out.1 HD.out.2.2.1 HD.out.2.2.2 hxn (none, 0))
            rw [HR.out] at H6
            clear HT4
            go_wp2_with (first | (refine wpList_store_mid rfl 52 _ _ rfl r (x * 2) #[.nilIface, .int .i32 0] rfl rfl HRT.out szRu ruZ_one ?_))
            exact ⟨⟨k + 1, m, by omega, by go_num, H6⟩, by simp [intOf]; omega⟩
      -- part>
    case rest =>
      clear H5
      obtain ⟨m, HT⟩ := hcut
      have a0 := HT.out.2.2.1.2.1 3 (by omega) 9 _ rfl
      simp only [Nat.reduceMul, Nat.reduceAdd] at a0
      have a1 := HT.out.2.2.1.2.2.2.1
      have a5 := HT.out.2.2.1.2.2.2.2.1
      have a6 := HT.out.2.2.1.1
      have a2' := HT.out.2.2.2.2.2.cell 0 rfl
      have a3' := HT.out.1.cell 0 rfl
      have a4' := HT.out.1.cell 1 rfl
      have hmr : mb ≠ r := by have := HD.out; omega
      have hkr : w.heap.size ≠ r := by have := HD.out; omega
      have ne : ∀ {x : Nat}, x ≠ r → some x ≠ some r := fun h e => h (by injection e)
      have HQ2 : Hid (∀ w' : World, wc.grownBy w' (some r) → w'.cell? ⟨b, 43, none⟩ = some (.int .u32 (x : Int)) ∧ w'.cell? ⟨b, 46, none⟩ = some (.bool imp) ∧ w'.cell? ⟨mb, 0, none⟩ = some (.int .i32 m) ∧ w'.cell? ⟨w.heap.size, 0, none⟩ = some (.int .i32 a2) ∧ w'.cell? ⟨w.heap.size, 1, none⟩ = some (.int .i32 a3) ∧ w'.cell? ⟨b, 47, none⟩ = some (.int .u16 key) ∧ w'.cell? ⟨b, 0, none⟩ = some (.string kt)) :=
        Lib.hid fun w' hg => ⟨hg.cell a0 (ne HD.out.1), hg.cell a1 (ne HD.out.1), hg.cell a2' (ne hmr), hg.cell a3' (ne hkr), hg.cell a4' (ne hkr), hg.cell a5 (ne HD.out.1), hg.cell a6 (ne HD.out.1)⟩
      have th := HT.out.2.2.2.2.1
      obtain ⟨v0, e0⟩ := Option.isSome_iff_exists.1 (th (x * 2) (by omega)).1
      obtain ⟨v1, e1⟩ := Option.isSome_iff_exists.1 (th (x * 2 + 1) (by omega)).1
      rw [Nat.zero_add] at e0 e1
      have al : ∀ o : Obj, Below wc.heap.size wc (wc.alloc o) := fun o => (Below.refl _ _).alloc (Nat.le_refl _) o
      have g0 : ∀ o, (wc.alloc o).cell? ⟨r, x * 2, none⟩ = some v0 := fun o => alloc_cell e0 o
      have g1 : ∀ o, (wc.alloc o).cell? ⟨r, x * 2 + 1, none⟩ = some v1 := fun o => alloc_cell e1 o
      have f0 : ∀ o, (wc.alloc o).frozen? ⟨r, x * 2, none⟩ = false := fun o => by have := (th_keep (al o) th (x * 2) (by omega)).2; rwa [Nat.zero_add] at this
      have f1 : ∀ o, (wc.alloc o).frozen? ⟨r, x * 2 + 1, none⟩ = false := fun o => by have := (th_keep (al o) th (x * 2 + 1) (by omega)).2; rwa [Nat.zero_add] at this
      have p2 : (0 : Int) ≤ x := by omega
      have p3 : (x : Int) < n := by omega
      clear a0 a1 a2' a3' a4' a5 a6 e0 e1 al th ne
      go_upto_region 19 with fail
      go_region_held3 (fun w' => w'.cell? ⟨b, 43, none⟩ = some (.int .u32 (x : Int)) ∧ w'.cell? ⟨b, 46, none⟩ = some (.bool imp) ∧ w'.cell? ⟨mb, 0, none⟩ = some (.int .i32 m) ∧ w'.cell? ⟨w.heap.size, 0, none⟩ = some (.int .i32 a2) ∧ w'.cell? ⟨w.heap.size, 1, none⟩ = some (.int .i32 a3) ∧ w'.cell? ⟨b, 47, none⟩ = some (.int .u16 key) ∧ w'.cell? ⟨b, 0, none⟩ = some (.string kt))
        (first | (refine HQ2.out _ ?_; repeat (first | with_reducible exact gb_refl _ _ | with_reducible apply gb_drew | with_reducible apply gb_al | with_reducible apply gb_set)))
        (fail)
      have hal : Below wc.heap.size wc (wc.alloc (.cells (dcR kt (.slice (some ⟨g, 0, none⟩) nv cv) a2 a3 key imp).toArray 48)) := (Below.refl _ _).alloc (Nat.le_refl _) _
      have hd : w.heap.size ≤ wc.heap.size := HT.out.2.1.size
      have H6 := (HT.out.keep hal).put HD.out.1 HD.out.2.2.1 HD.out.2.2.2 hxn (some wc.heap.size, m)
      go_wp2_with fail
      (try simp only [Exit.inBlock, Exit.then])
      refine bodyPost_end (results_none rfl _ _ _) rfl ?_
      have H7 := H6.drew
      refine ⟨rfl, wc.heap.size, m, ?_, H7.2.2.1, hd, H7.2.1⟩
      have h8 := H7.2.2.2.1
      rw [show rk R x 4 = upR R x (none, 0) from rfl, upR_upR] at h8
      exact h8
end Go.Proofs.YtnihlfldlkkobaaDoor.Bx
