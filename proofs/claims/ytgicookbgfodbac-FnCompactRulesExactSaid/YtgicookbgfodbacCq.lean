/-
  FnCompactRulesExact: the walk.
-/
import Derived.Test.YtgicookbgfodbacCn
namespace Go.Proofs.Ytgicookbgfodbac.Co
open Go.ChangeShapes Go.WideShapes Go.ChangeAt Go.RowKit Rg Quad
set_option linter.unusedVariables false
set_option linter.unusedSimpArgs false
set_option maxRecDepth 100000 in
set_option maxHeartbeats 8000000 in
theorem law56 (z0 z1 z2 : Nat → Int) (al : Option Addr) (n c : Nat) (lc : Nat → Int) (imp mf : Bool) (key : Int) (w : World) (hz0 : ∀ j, j < 4 → 0 ≤ z0 j ∧ z0 j < 256) (hz1 : ∀ j, j < 4 → 0 ≤ z1 j ∧ z1 j < 256) (hz2 : ∀ j, j < 4 → 0 ≤ z2 j ∧ z2 j < 65536)
    (hl : Sl w al n (fun i => .int .i32 (lc i))) (h0 : al = none → n = 0) (hn : (n : Int) ≤ 9223372036854775807) :
    Calls Try.prog 3 #[.agg #[.int .u8 (z0 0), .int .u8 (z0 1), .int .u8 (z0 2), .int .u8 (z0 3)], .agg #[.int .u8 (z1 0), .int .u8 (z1 1), .int .u8 (z1 2), .int .u8 (z1 3)], .agg #[.int .u16 (z2 0), .int .u16 (z2 1), .int .u16 (z2 2), .int .u16 (z2 3)], .slice al n c, .bool imp, .bool mf, .int .i32 key] w fun e w' => e = .returned (.bool true) ∧ Below w.heap.size w w' := by
  have HZ := Lib.hid (And.intro hz0 (And.intro hz1 hz2))
  have HL := Lib.hid (And.intro hl h0)
  obtain ⟨hX, hb⟩ := BX3.start z0 z1 z2 22 24 w
  unfold a4 a16 at hX hb
  clear hz0 hz1 hz2 hl h0
  go_enter Try.func3, Try.ntmps3
  go_upto_region 1 with fail
  generalize World.alloc (World.alloc (World.alloc w _) _) _ = wA at *
  generalize w.heap.size + 1 + 1 = b2 at *
  generalize w.heap.size + 1 = b1 at *
  have HX := Lib.hid hX
  have HB := Lib.hid hb
  have k00 := hX.1 0 (by omega)
  have k01 := hX.1 1 (by omega)
  have k02 := hX.1 2 (by omega)
  have k03 := hX.1 3 (by omega)
  have k10 := hX.2.1 0 (by omega)
  have k11 := hX.2.1 1 (by omega)
  have k12 := hX.2.1 2 (by omega)
  have k13 := hX.2.1 3 (by omega)
  have k20 := hX.2.2 0 (by omega)
  have k21 := hX.2.2 1 (by omega)
  have k22 := hX.2.2 2 (by omega)
  have k23 := hX.2.2 3 (by omega)
  clear hX hb
  go_upto_if 37 with (first | (go_at_call 4; refine (zb56 _ _ _ _ _ _ _ _ _ _ hn).mono ?_; rintro e wB ⟨⟨rb, rfl, hrb⟩, hb⟩))
  have HXB := Lib.hid (HX.out.keep hb)
  have HBB := Lib.hid (HB.out.trans (hb.mono HB.out.size))
  clear HX HB hb k00 k01 k02 k03 k10 k11 k12 k13 k20 k21 k22 k23
  cases rb with
  | false =>
    go_wp2_with fail
    go_ret
    exact ⟨rfl, HBB.out⟩
  | true =>
  have hnn : (n : Int) ≤ 1048576 := hrb rfl
  clear hrb
  by_cases n0 : n = 0
  · have e0 : ((n : Int) == 0) = true := by rw [beq_iff_eq]; omega
    go_wp2_with fail
    go_ret
    exact ⟨rfl, HBB.out⟩
  have e0 : ((n : Int) == 0) = false := beq_eq_false_iff_ne.mpr (by omega)
  by_cases n1 : (4096 : Int) < n
  · go_wp2_with fail
    go_ret
    exact ⟨rfl, HBB.out⟩
  have hn4 : n ≤ 4096 := by omega
  have HSB := Lib.hid (HL.out.1.keep HBB.out)
  go_upto_region 8 with (first
    | (go_at_call 5; refine (cpl al n c lc wB HSB.out HL.out.2 hnn).mono ?_; rintro e w2 ⟨al2, c2, rfl, hS2, hn2, ho2, hb2⟩; have HX2 := Lib.hid (HXB.out.keep hb2); have HB2 := Lib.hid (HBB.out.trans (hb2.mono HBB.out.size)); have HS2 := Lib.hid hS2; clear hS2 hn2 ho2 hb2 HXB HBB HSB)
    | (go_at_call 6; refine (ly_any al2 n c2 lc w2 HS2.out hn4).mono ?_; rintro e w3 ⟨gd, gr, D, rfl, hLI⟩))
  have hb3 : Below w2.heap.size w2 w3 := hLI.2.2.2.2.2.2.2.2.2.2
  have HX3 := Lib.hid (HX2.out.keep hb3)
  have HB3 := Lib.hid (HB2.out.trans (hb3.mono HB2.out.size))
  have HS3 := Lib.hid (HS2.out.keep hb3)
  have HLI := Lib.hid hLI
  have H2B := Lib.hid HB2.out.size
  have HA2 : Hid (∀ x, al2 = some x → x.block < w2.heap.size) := Lib.hid fun x hx => by
    obtain ⟨ab, ao, e, cc⟩ := HS2.out 0 (by omega)
    rw [hx] at e
    injection e with e
    subst e
    exact World.block_lt_of_cell? w2 _ cc
  clear hLI hb3 HX2 HB2 HS2 HL n1
  obtain ⟨ix, hix⟩ : ∃ ix : Nat → Nat, ∀ i, i < 4 → ix i < n ∧ (z2 i).tmod (n : Int) = (ix i : Int) := ⟨fun i => (z2 i % (n : Int)).toNat, fun i hi => by
    have hz := (HZ.out.2.2 i hi).1
    have hm0 := Int.emod_nonneg (z2 i) (show (n : Int) ≠ 0 by omega)
    have hm1 := Int.emod_lt_of_pos (z2 i) (show (0 : Int) < n by omega)
    rw [Int.tmod_eq_emod_of_nonneg hz]
    dsimp only
    omega⟩
  obtain ⟨q1, hq1⟩ : ∃ q : Nat → Int, ∀ i, i < 4 → (0 ≤ q i ∧ q i < 5) ∧ (z0 i).tmod 5 = q i := ⟨fun i => z0 i % 5, fun i hi => by
    have hz := (HZ.out.1 i hi).1
    rw [Int.tmod_eq_emod_of_nonneg hz]
    dsimp only
    omega⟩
  obtain ⟨q2, hq2⟩ : ∃ q : Nat → Int, ∀ i, i < 4 → (0 ≤ q i ∧ q i < 5) ∧ (z1 i).tmod 5 = q i := ⟨fun i => z1 i % 5, fun i hi => by
    have hz := (HZ.out.2.1 i hi).1
    rw [Int.tmod_eq_emod_of_nonneg hz]
    dsimp only
    omega⟩
  have HI := Lib.hid hix
  have HQ1 := Lib.hid hq1
  have HQ2 := Lib.hid hq2
  clear hix hq1 hq2
  go_upto_region 10 with fail
  have hW := LW.start ix q1 q2 w3 #[.int .i64 0, .int .i64 0, .int .i64 0, .int .i64 0] #[.int .u8 0, .int .u8 0, .int .u8 0, .int .u8 0] #[.int .u8 0, .int .u8 0, .int .u8 0, .int .u8 0] Z72 32 22 22 46 rfl rfl rfl rfl
  have hsz : (((w3.alloc (.cells #[.int .i64 0, .int .i64 0, .int .i64 0, .int .i64 0] 32)).alloc (.cells #[.int .u8 0, .int .u8 0, .int .u8 0, .int .u8 0] 22)).alloc (.cells #[.int .u8 0, .int .u8 0, .int .u8 0, .int .u8 0] 22)).heap.size = w3.heap.size + 1 + 1 + 1 := by simp
  generalize ((w3.alloc (.cells #[.int .i64 0, .int .i64 0, .int .i64 0, .int .i64 0] 32)).alloc (.cells #[.int .u8 0, .int .u8 0, .int .u8 0, .int .u8 0] 22)).alloc (.cells #[.int .u8 0, .int .u8 0, .int .u8 0, .int .u8 0] 22) = w4 at *
  go_upto_block 0 with (first | (refine wpl_alloc rfl 46 rfl _ _ (run_al72 w4) ?_))
  generalize World.alloc w4 _ = w5 at *
  generalize hgc : w3.heap.size + 1 + 1 + 1 = gc at *
  generalize hg2 : w3.heap.size + 1 + 1 = g2 at *
  generalize hg1 : w3.heap.size + 1 = g1 at *
  generalize hgx : w3.heap.size = gx at *
  have HD : Hid ((gx ≠ g1 ∧ gx ≠ g2 ∧ gx ≠ gc ∧ g1 ≠ g2 ∧ g1 ≠ gc ∧ g2 ≠ gc) ∧ w3.heap.size ≤ gx ∧ w3.heap.size ≤ g1 ∧ w3.heap.size ≤ g2 ∧ w3.heap.size ≤ gc) := Lib.hid ⟨⟨by omega, by omega, by omega, by omega, by omega, by omega⟩, by omega, by omega, by omega, by omega⟩
  have HW := Lib.hid hW
  clear hW hsz hgc hg2 hg1
  go_cut [] (fun wc => Hid (LW gx g1 g2 gc ix q1 q2 4 4 4 4 w3 wc))
  case first =>
    -- <part
    go_wp2_with fail
    go_loopw [22] (fun iv wr => ∃ k : Nat, k ≤ 4 ∧ iv = .int .i64 k ∧ Hid (LW gx g1 g2 gc ix q1 q2 k k k k w3 wr)) (fun iv _ => 4 - (intOf iv).toNat)
    case atStart => exact ⟨0, by omega, rfl, HW⟩
    case round =>
      clear HW
      obtain ⟨k, hk, rfl, HT⟩ := hrel
      by_cases hlt : k < 4
      case neg =>
        obtain rfl : k = 4 := by omega
        go_wp2_with fail
        go_meet
        exact HT
      have p0 : (0 : Int) ≤ k := by omega
      have p1 : (k : Int) < 4 := by omega
      have HXr := Lib.hid (HX3.out.keep HT.out.2.2.2.2.2.2.2.2)
      have cz := HXr.out.2.2 k hlt
      have hy := HZ.out.2.2 k hlt
      obtain ⟨hi1, hi2⟩ := HI.out k hlt
      generalize z2 k = y at *
      obtain ⟨hy0, hy1⟩ := hy
      have i0 : (0 : Int) ≤ ix k := by omega
      have i1 : (ix k : Int) < n := by omega
      have i2 : (ix k : Int) ≤ 4096 := by omega
      have nn : (n : Int) ≠ 0 := by omega
      obtain ⟨v0, ev0⟩ := Option.isSome_iff_exists.1 ((HT.out.2.2.2.2.1) k hlt).1
      have fv0 := ((HT.out.2.2.2.2.1) k hlt).2
      rw [Nat.zero_add] at ev0 fv0
      go_upto_region 15 with fail
      have HT' := Lib.hid (HT.out.px hlt HD.out.1 HD.out.2.1)
      clear ev0 fv0 HT
      have HT := HT'
      clear HT'
      generalize World.setCell wr _ _ = wa at *
      clear cz HXr
      have HXr := Lib.hid (HX3.out.keep HT.out.2.2.2.2.2.2.2.2)
      have cz := HXr.out.1 k hlt
      have hy16 := HZ.out.1 k hlt
      obtain ⟨⟨hm0_16, hm1_16⟩, hm_16⟩ := HQ1.out k hlt
      generalize z0 k = y16 at *
      obtain ⟨hya16, hyb16⟩ := hy16
      obtain ⟨v0, ev0⟩ := Option.isSome_iff_exists.1 ((HT.out.2.2.2.2.2.1) k hlt).1
      have fv0 := ((HT.out.2.2.2.2.2.1) k hlt).2
      rw [Nat.zero_add] at ev0 fv0
      go_upto_region 16 with fail
      have HT' := Lib.hid (HT.out.p1 hlt HD.out.1 HD.out.2.2.1)
      clear ev0 fv0 HT
      have HT := HT'
      clear HT'
      generalize World.setCell wa _ _ = wb at *
      clear cz HXr
      have HXr := Lib.hid (HX3.out.keep HT.out.2.2.2.2.2.2.2.2)
      have cz := HXr.out.2.1 k hlt
      have hy17 := HZ.out.2.1 k hlt
      obtain ⟨⟨hm0_17, hm1_17⟩, hm_17⟩ := HQ2.out k hlt
      generalize z1 k = y17 at *
      obtain ⟨hya17, hyb17⟩ := hy17
      obtain ⟨v0, ev0⟩ := Option.isSome_iff_exists.1 ((HT.out.2.2.2.2.2.2.1) k hlt).1
      have fv0 := ((HT.out.2.2.2.2.2.2.1) k hlt).2
      rw [Nat.zero_add] at ev0 fv0
      go_upto_region 17 with fail
      have HT' := Lib.hid (HT.out.p2 hlt HD.out.1 HD.out.2.2.2.1)
      clear ev0 fv0 HT
      have HT := HT'
      clear HT'
      generalize World.setCell wb _ _ = wd at *
      clear cz HXr
      have c1 := HT.out.2.1 k (by omega)
      have c2 := HT.out.2.2.1 k (by omega)
      have c3 := HT.out.1 k (by omega)
      obtain ⟨cc, hcc⟩ : ∃ c, cnR (q1 k) (q2 k) (ix k) false = c := ⟨_, rfl⟩
      have l0 : cc.length = 18 := by rw [← hcc]; rfl
      have l1 : ∀ v ∈ cc, v.oneCell' = true := by rw [← hcc]; exact cnR_one' _ _ _ _
      have hz1 := fun W => zt_low (q1 k) W hm0_16 (by omega)
      have hz2 := fun W => zt_low (q2 k) W hm0_17 (by omega)
      have hnc := fun W => nc_any (q1 k) (q2 k) (ix k) false W
      rw [hcc] at hnc
      generalize hx1 : q1 k = x1 at *
      generalize hx2 : q2 k = x2 at *
      generalize hxi : ix k = i at *
      have hwr : IntKind.u32.wrap (i : Int) = (i : Int) := by
        have : IntKind.u32.wrap (i : Int) = (i : Int) % 4294967296 := by simp [IntKind.wrap, IntKind.bits, IntKind.signed]
        rw [this]; omega
      have HZ1 := Lib.hid hz1
      have HZ2 := Lib.hid hz2
      have HNC := Lib.hid hnc
      have HCC := Lib.hid (And.intro hcc (And.intro l0 l1))
      have ne : ∀ {x : Nat}, x ≠ gc → some x ≠ some gc := fun h e => h (by injection e)
      have HQ2' : Hid (∀ w' : World, wd.grownBy w' (some gc) → w'.cell? ⟨g1, k, none⟩ = some (.int .u8 x1) ∧ w'.cell? ⟨g2, k, none⟩ = some (.int .u8 x2) ∧ w'.cell? ⟨gx, k, none⟩ = some (.int .i64 (i : Int))) :=
        Lib.hid fun w' hg => ⟨hg.cell c1 (ne HD.out.1.2.2.2.2.1), hg.cell c2 (ne HD.out.1.2.2.2.2.2), hg.cell c3 (ne HD.out.1.2.2.1)⟩
      have HTH := Lib.hid HT.out.2.2.2.2.2.2.2.1
      clear c1 c2 c3 hcc l1 hz1 hz2 hnc ne
      go_region_held3 (fun w' => w'.cell? ⟨g1, k, none⟩ = some (.int .u8 x1) ∧ w'.cell? ⟨g2, k, none⟩ = some (.int .u8 x2) ∧ w'.cell? ⟨gx, k, none⟩ = some (.int .i64 (i : Int)))
        (first | (with_reducible exact HQ2'.out _ (gb_drew (gb_refl _ _))) | (with_reducible exact HQ2'.out _ G5) | (with_reducible exact HQ2'.out _ G6) | (with_reducible exact HQ2'.out _ G7) | (with_reducible exact HQ2'.out _ G8))
        (first
          | (go_at_call_of 8 x1; refine (HZ1.out _).mono ?_; rintro e w5 ⟨rfl, hb5⟩; have HB5 : Below wd.heap.size wd w5 := below_of hb5 rfl rfl rfl rfl; have G5 := gb_then (r := gc) (gb_refl wd gc) HB5; clear hb5)
          | (go_at_call_of 8 x2; refine (HZ2.out _).mono ?_; rintro e w6 ⟨rfl, hb6⟩; have HB6 := HB5.trans (hb6.mono HB5.size); have G6 := gb_then (r := gc) (gb_refl wd gc) HB6; clear hb6)
          | (go_at_call 7; refine (HNC.out _).mono ?_; rintro e w7 ⟨rfl, hb7⟩; have HB7 := HB6.trans (hb7.mono HB6.size); have G7 := gb_then (r := gc) (gb_refl wd gc) HB7; have G8 := gb_sets G7 (k * 18) cc; have hst := st_corner (th_keep HB7 HTH.out) hlt HCC.out.2.1 HCC.out.2.2; clear hb7))
      have H8 := (HT.out.keep HB7).pc hlt HD.out.1 HD.out.2.2.2.2
      rw [hx1, hx2, hxi, HCC.out.1] at H8
      have H9 := Lib.hid H8
      clear H8 HT HB5 HB6 HB7 G5 G6 G7 G8 hst hx1 hx2 hxi HCC
      go_wp2_with fail
      exact ⟨⟨k + 1, by omega, by go_num, H9⟩, by simp [intOf]; omega⟩
    -- part>
  case rest =>
    clear HW
    have HW := hcut
    clear hcut
    go_upto_region 18 with fail
    go_cut [23] (fun v wd => ∃ t, v = .pointer (some ⟨t, 0, none⟩) ∧ w3.heap.size ≤ t ∧ Hid (LW gx g1 g2 gc ix q1 q2 4 4 4 4 w3 wd) ∧ Hid (TK q1 q2 ix false imp t wd))
    case first =>
      -- <part
      have R0 := Lib.hid (show wc.rangeAt gc 0 (cnR (q1 0) (q2 0) (ix 0) false) from HW.out.2.2.2.1 0 (by omega))
      have R1 := Lib.hid (show wc.rangeAt gc 18 (cnR (q1 1) (q2 1) (ix 1) false) from HW.out.2.2.2.1 1 (by omega))
      have R2 := Lib.hid (show wc.rangeAt gc 36 (cnR (q1 2) (q2 2) (ix 2) false) from HW.out.2.2.2.1 2 (by omega))
      have R3 := Lib.hid (show wc.rangeAt gc 54 (cnR (q1 3) (q2 3) (ix 3) false) from HW.out.2.2.2.1 3 (by omega))
      obtain ⟨du, hu, hu2⟩ := tyCn
      have HU := Lib.hid hu
      clear hu
      go_wp2_with (first | (refine wpList_load_mid rfl 45 _ rfl gc 0 rfl (cnR (q1 0) (q2 0) (ix 0) false) du R0.out HU.out hu2 szCn ?_) | (refine wpList_load_mid rfl 45 _ rfl gc 18 rfl (cnR (q1 1) (q2 1) (ix 1) false) du R1.out HU.out hu2 szCn ?_) | (refine wpList_load_mid rfl 45 _ rfl gc 36 rfl (cnR (q1 2) (q2 2) (ix 2) false) du R2.out HU.out hu2 szCn ?_) | (refine wpList_load_mid rfl 45 _ rfl gc 54 rfl (cnR (q1 3) (q2 3) (ix 3) false) du R3.out HU.out hu2 szCn ?_) | (go_at_call 9; refine (nt_any q1 q2 ix false imp _).mono ?_; rintro e w6 ⟨t, rfl, hbk, htl, hb6⟩))
      have HW6 := Lib.hid (HW.out.keep hb6)
      have HT6 := Lib.hid (TK.of hbk)
      have htl3 : w3.heap.size ≤ t := Nat.le_trans HW.out.2.2.2.2.2.2.2.2.size htl
      go_meet
      exact ⟨t, rfl, htl3, HW6, HT6⟩
      -- part>
    case rest =>
    clear HW
    obtain ⟨t, rfl, htl3, HW6, HT6⟩ := hcut
    go_upto_region 20 with fail
    have al7 : Below wc.heap.size wc (wc.alloc (.cells #[.int .i32 key, .int .i32 13] 52)) := (Below.refl _ _).alloc (Nat.le_refl _) _
    have HW7 := Lib.hid (HW6.out.keep al7)
    have HT7 := Lib.hid (HT6.out.keep al7)
    have kr0 := Bk.cell (heap_alloc_new wc (.cells #[.int .i32 key, .int .i32 13] 52)) 0 rfl
    have kr1 := Bk.cell (heap_alloc_new wc (.cells #[.int .i32 key, .int .i32 13] 52)) 1 rfl
    have hgk : w3.heap.size ≤ wc.heap.size := HW6.out.2.2.2.2.2.2.2.2.size
    clear al7 HW6 HT6
    generalize World.alloc wc _ = w7 at *
    generalize wc.heap.size = gk at *
    have hb37 := HW7.out.2.2.2.2.2.2.2.2
    have HL7 := Lib.hid (HLI.out.keep hb37)
    have HS7 := Lib.hid (HS3.out.keep hb37)
    have HB7 := Lib.hid (HB3.out.trans (hb37.mono HB3.out.size))
    have hgr3 : gr < w3.heap.size := HLI.out.2.2.2.2.2.2.2.2.2.1
    have htr : t ≠ gr := by omega
    clear hb37 HLI HS3 HB3 HX3
    go_upto_block 2 with (first | (go_at_call 10; refine (cw_any t gr n n q1 q2 ix imp mf key (fun j => (some (D j), lc j)) lc w7 HT7.out htr HL7.out.2.1 HL7.out.2.2.2.2.1 (fun i hi => (HI.out i hi).1) (fun i hi => rfl) hn4 (fun i hi => by have := (HQ1.out i hi).1; omega) (fun i hi => by have := (HQ2.out i hi).1; omega)).mono ?_; rintro e w8 ⟨rfl, d, g, nv, cv, X, r1, r2, r3, r4, r5, r6⟩))
    have ne : ∀ {x : Nat}, x ≠ gr → some x ≠ some gr := fun h e => h (by injection e)
    have hF : FW gr gd gx g1 g2 gk n D al2 lc ix q1 q2 key imp d g nv cv X (upR (rk (fun j => (some (D j), lc j)) ix 4) (ix 3) (some d, mz ix lc 4)) w w8 := by
      have hD := HD.out
      refine ⟨r1, fun j hj => r6.cell (HL7.out.1 j hj) (ne HL7.out.2.2.2.2.2.1), fun j hj => ?_, fun j hj => r6.cell (HW7.out.1 j hj) (ne (by dsimp only; omega)), fun j hj => r6.cell (HW7.out.2.1 j hj) (ne (by dsimp only; omega)), fun j hj => r6.cell (HW7.out.2.2.1 j hj) (ne (by dsimp only; omega)), ⟨r6.cell kr0 (ne (by dsimp only; omega)), r6.cell kr1 (ne (by dsimp only; omega))⟩, fun j hj => ?_, r2, r4, Nat.le_trans HB7.out.size r6.size, ?_⟩
      · obtain ⟨⟨cs, hc⟩, _, hne⟩ := HL7.out.2.2.1 j hj
        exact ⟨cs, hc.grown r6 (ne (fun e => hne e.symm))⟩
      · obtain ⟨ab, ao, e, cc⟩ := HS7.out j hj
        have h1 := HA2.out _ e
        have h2 := HL7.out.2.2.2.2.2.2.2.1
        exact ⟨ab, ao, e, r6.cell cc (ne (by dsimp only at h1 ⊢; omega))⟩
      · have h2 := HL7.out.2.2.2.2.2.2.2.1
        have h3 := H2B.out
        exact HB7.out.trans (gb_to_below r6 (by omega) HB7.out.size)
    have hdD : ∀ j, j < n → D j < w7.heap.size := fun j hj => by
      obtain ⟨⟨cs, hc⟩, _, _⟩ := HL7.out.2.2.1 j hj
      exact hc.lt
    have HDD := Lib.hid (fun j (hj : j < n) => show d ≠ D j by have := hdD j hj; omega)
    have HV := Lib.hid r3
    obtain ⟨RF, hRF⟩ : ∃ R, upR (rk (fun j => (some (D j), lc j)) ix 4) (ix 3) (some d, mz ix lc 4) = R := ⟨_, rfl⟩
    rw [hRF] at hF
    have HRF := Lib.hid hRF
    have HF := Lib.hid hF
    clear r1 r2 r3 r4 r5 r6 hF hdD hRF HL7 HS7 HB7 HW7 HT7 kr0 kr1 HA2 H2B htl3 hgk hgr3 htr ne
    go_wp2_with fail
    go_loopw [25] (fun iv wr => ∃ j : Nat, j ≤ n ∧ iv = .int .i64 j ∧ Hid (FW gr gd gx g1 g2 gk n D al2 lc ix q1 q2 key imp d g nv cv X RF w wr)) (fun iv _ => n - (intOf iv).toNat)
    case atStart => exact ⟨0, Nat.zero_le _, rfl, HF⟩
    case round =>
      clear HF
      obtain ⟨j, hj, rfl, HF⟩ := hrel
      by_cases hlt : j < n
      case neg =>
        obtain rfl : j = n := by omega
        go_wp2_with fail
        go_ret
        exact ⟨rfl, HF.out.2.2.2.2.2.2.2.2.2.2.2⟩
      have p0 : (0 : Int) ≤ j := by omega
      have p1 : (j : Int) < n := by omega
      go_upto_block 4 with fail
      go_cut [26] (fun uv wq => uv = .bool (un ix j 4) ∧ Hid (FW gr gd gx g1 g2 gk n D al2 lc ix q1 q2 key imp d g nv cv X RF w wq))
      case first =>
        -- <part
        go_wp2_with fail
        go_loopw [26, 27] (fun uv iv wq => ∃ (i : Nat) (b : Bool), i ≤ 4 ∧ iv = .int .i64 i ∧ uv = .bool b ∧ Hid (b = un ix j i) ∧ Hid (FW gr gd gx g1 g2 gk n D al2 lc ix q1 q2 key imp d g nv cv X RF w wq)) (fun _ iv _ => 4 - (intOf iv).toNat)
        case atStart => exact ⟨0, false, Nat.zero_le _, rfl, rfl, Lib.hid rfl, HF⟩
        case round =>
          clear HF
          obtain ⟨i, b, hi, rfl, rfl, HB, HF⟩ := hrel
          by_cases hlt2 : i < 4
          case neg =>
            obtain rfl : i = 4 := by omega
            go_wp2_with fail
            go_meet
            exact ⟨by rw [HB.out], HF⟩
          have p2 : (0 : Int) ≤ i := by omega
          have p3 : (i : Int) < 4 := by omega
          have ci := HF.out.2.2.2.1 i hlt2
          have hsn := un_succ ix j i
          rw [← HB.out] at hsn
          clear HB
          by_cases e : ix i = j
          · have e2 : ((ix i : Int) == (j : Int)) = true := by rw [beq_iff_eq]; omega
            have HN : Hid (true = un ix j (i + 1)) := Lib.hid (by rw [hsn, beq_iff_eq.2 e, Bool.or_true])
            clear hsn e
            go_wp2_with fail
            exact ⟨⟨i + 1, true, by omega, by go_num, rfl, HN, HF⟩, by simp [intOf]; omega⟩
          · have e2 : ((ix i : Int) == (j : Int)) = false := beq_eq_false_iff_ne.mpr (by omega)
            have HN : Hid (b = un ix j (i + 1)) := Lib.hid (by rw [hsn, beq_eq_false_iff_ne.mpr e, Bool.or_false])
            clear hsn e
            go_wp2_with fail
            exact ⟨⟨i + 1, b, by omega, by go_num, rfl, HN, HF⟩, by simp [intOf]; omega⟩
        -- part>
      case rest =>
      clear HF
      obtain ⟨rfl, HF⟩ := hcut
      cases hu : un ix j 4 with
      | false =>
        have hr : RF j = (some (D j), lc j) := by rw [← HRF.out, r_unused hu]
        clear hu
        go_wp2_with (first | (go_at_call 11; refine (zk_any gr n n j gd n (D j) al2 n c2 lc RF _ HF.out.1 hlt hr (HF.out.2.1 j hlt) HF.out.2.2.2.2.2.2.2.1 rfl).mono ?_; rintro e wk ⟨rfl, hb⟩))
        exact ⟨⟨j + 1, by omega, by go_num, Lib.hid (HF.out.keep hb)⟩, by simp [intOf]; omega⟩
      | true =>
        have c3 := HF.out.2.2.2.1 3 (by omega)
        by_cases e3 : j = ix 3
        · have hr : RF j = (some d, mz ix lc 4) := by rw [← HRF.out, r_new e3]
          have e4 : ((j : Int) == (ix 3 : Int)) = true := by rw [beq_iff_eq]; omega
          obtain ⟨m, hm⟩ : ∃ m, mz ix lc 4 = m := ⟨_, rfl⟩
          rw [hm] at hr
          obtain ⟨r0, r1⟩ := HF.out.1.cells hlt
          rw [hr] at r0 r1
          unfold dv at r0
          dsimp only at r0 r1
          have hdo := fun W => do_any (some d) m W
          unfold dv pv at hdo
          have HDO := Lib.hid hdo
          clear hdo hu e3
          go_upto_region 37 with (first | (go_at_call 13; refine (HDO.out _).mono ?_; rintro e wk ⟨rfl, hb⟩))
          have HF1 := Lib.hid (HF.out.keep hb)
          clear HF hb r0 r1 c3 HDO
          have cj := HF1.out.2.1 j hlt
          obtain ⟨csj, hcj⟩ := HF1.out.2.2.1 j hlt
          have hpe := pe_other (HDD.out j hlt) HF1.out.2.2.2.2.2.2.2.2.1 hcj
          clear hcj
          go_upto_region 39 with fail
          clear hpe cj
          obtain ⟨-, r1⟩ := HF1.out.1.cells hlt
          rw [hr] at r1
          dsimp only at r1
          have x0 := HF1.out.2.2.2.1 0 (by omega)
          have x1 := HF1.out.2.2.2.1 1 (by omega)
          have x2 := HF1.out.2.2.2.1 2 (by omega)
          have x3 := HF1.out.2.2.2.1 3 (by omega)
          have hml := fun (w' : World) (hb : Below wk.heap.size wk w') => ml_any ix al2 n c2 lc w' (fun i hi => (HI.out i hi).1) (HF1.out.2.2.2.2.2.2.2.1.keep hb)
          rw [hm] at hml
          unfold i4 at hml
          have HML := Lib.hid hml
          have HQX : Hid (∀ w' : World, Below wk.heap.size wk w' → w'.cell? ⟨gr, j * 2 + 1, none⟩ = some (.int .i32 m) ∧ w'.cell? ⟨gx, 0, none⟩ = some (.int .i64 (ix 0 : Int)) ∧ w'.cell? ⟨gx, 1, none⟩ = some (.int .i64 (ix 1 : Int)) ∧ w'.cell? ⟨gx, 2, none⟩ = some (.int .i64 (ix 2 : Int)) ∧ w'.cell? ⟨gx, 3, none⟩ = some (.int .i64 (ix 3 : Int)) ∧ Below wk.heap.size wk w') :=
            Lib.hid fun w' hb => ⟨later hb r1, later hb x0, later hb x1, later hb x2, later hb x3, hb⟩
          clear hml r1 x0 x1 x2 x3
          go_region_held3 (fun w' => w'.cell? ⟨gr, j * 2 + 1, none⟩ = some (.int .i32 m) ∧ w'.cell? ⟨gx, 0, none⟩ = some (.int .i64 (ix 0 : Int)) ∧ w'.cell? ⟨gx, 1, none⟩ = some (.int .i64 (ix 1 : Int)) ∧ w'.cell? ⟨gx, 2, none⟩ = some (.int .i64 (ix 2 : Int)) ∧ w'.cell? ⟨gx, 3, none⟩ = some (.int .i64 (ix 3 : Int)) ∧ Below wk.heap.size wk w')
            (first | (with_reducible exact HQX.out _ (Below.refl _ _).drew) | (with_reducible exact HQX.out _ HB5))
            (first | (go_at_call 14; refine (HML.out _ (Below.refl _ _).drew).mono ?_; rintro e w5 ⟨rfl, hb5⟩; have HB5 : Below wk.heap.size wk w5 := below_of hb5 rfl rfl rfl rfl; clear hb5))
          rename_i hH
          have HF5 := Lib.hid (HF1.out.keep HB5)
          clear hH HB5 HF1 HQX HML
          go_upto_region 41 with fail
          have f0 := HF5.out.2.2.2.2.2.2.1.1
          have f1 := HF5.out.2.2.2.2.2.2.1.2
          have hbd := HF5.out.2.2.2.2.2.2.2.2.1
          have f2 := hbd.cell 1 rfl
          have f3 := HF5.out.2.2.2.2.1 0 (by omega)
          have f4 := HF5.out.2.2.2.2.1 1 (by omega)
          have f5 := HF5.out.2.2.2.2.1 2 (by omega)
          have f6 := HF5.out.2.2.2.2.1 3 (by omega)
          have f7 := HF5.out.2.2.2.2.2.1 0 (by omega)
          have f8 := HF5.out.2.2.2.2.2.1 1 (by omega)
          have f9 := HF5.out.2.2.2.2.2.1 2 (by omega)
          have f10 := HF5.out.2.2.2.2.2.1 3 (by omega)
          have hds := fun (w' : World) (hb : Below w5.heap.size w5 w') => ds_any d (.slice (some ⟨g, 0, none⟩) nv cv) key imp w' (fun i v hv => by rw [Nat.zero_add]; exact (hbd.keep hb).cell i (by rw [List.getElem?_toArray]; exact hv))
          have hcv := fun (w' : World) (hb : Below w5.heap.size w5 w') => cv_any g nv cv X q1 q2 mf w' (HF5.out.2.2.2.2.2.2.2.2.2.1.keep hb) HV.out (fun i hi => by have := (HQ1.out i hi).1; omega) (fun i hi => by have := (HQ2.out i hi).1; omega)
          unfold a4 at hcv
          have HDS := Lib.hid hds
          have HCV := Lib.hid hcv
          have HQY : Hid (∀ w' : World, Below w5.heap.size w5 w' → w'.cell? ⟨gk, 0, none⟩ = some (.int .i32 key) ∧ w'.cell? ⟨gk, 1, none⟩ = some (.int .i32 13) ∧ w'.cell? ⟨d, 1, none⟩ = some (.slice (some ⟨g, 0, none⟩) nv cv) ∧ w'.cell? ⟨g1, 0, none⟩ = some (.int .u8 (q1 0)) ∧ w'.cell? ⟨g1, 1, none⟩ = some (.int .u8 (q1 1)) ∧ w'.cell? ⟨g1, 2, none⟩ = some (.int .u8 (q1 2)) ∧ w'.cell? ⟨g1, 3, none⟩ = some (.int .u8 (q1 3)) ∧ w'.cell? ⟨g2, 0, none⟩ = some (.int .u8 (q2 0)) ∧ w'.cell? ⟨g2, 1, none⟩ = some (.int .u8 (q2 1)) ∧ w'.cell? ⟨g2, 2, none⟩ = some (.int .u8 (q2 2)) ∧ w'.cell? ⟨g2, 3, none⟩ = some (.int .u8 (q2 3)) ∧ Below w5.heap.size w5 w') :=
            Lib.hid fun w' hb => ⟨later hb f0, later hb f1, later hb f2, later hb f3, later hb f4, later hb f5, later hb f6, later hb f7, later hb f8, later hb f9, later hb f10, hb⟩
          clear hds hcv hbd f0 f1 f2 f3 f4 f5 f6 f7 f8 f9 f10
          go_region_held3 (fun w' => w'.cell? ⟨gk, 0, none⟩ = some (.int .i32 key) ∧ w'.cell? ⟨gk, 1, none⟩ = some (.int .i32 13) ∧ w'.cell? ⟨d, 1, none⟩ = some (.slice (some ⟨g, 0, none⟩) nv cv) ∧ w'.cell? ⟨g1, 0, none⟩ = some (.int .u8 (q1 0)) ∧ w'.cell? ⟨g1, 1, none⟩ = some (.int .u8 (q1 1)) ∧ w'.cell? ⟨g1, 2, none⟩ = some (.int .u8 (q1 2)) ∧ w'.cell? ⟨g1, 3, none⟩ = some (.int .u8 (q1 3)) ∧ w'.cell? ⟨g2, 0, none⟩ = some (.int .u8 (q2 0)) ∧ w'.cell? ⟨g2, 1, none⟩ = some (.int .u8 (q2 1)) ∧ w'.cell? ⟨g2, 2, none⟩ = some (.int .u8 (q2 2)) ∧ w'.cell? ⟨g2, 3, none⟩ = some (.int .u8 (q2 3)) ∧ Below w5.heap.size w5 w')
            (first | (with_reducible exact HQY.out _ (Below.refl _ _).drew) | (with_reducible exact HQY.out _ HB6) | (with_reducible exact HQY.out _ HB7))
            (first
              | (go_at_call 15; refine (HDS.out _ (Below.refl _ _).drew).mono ?_; rintro e w6 ⟨rfl, hb6⟩; have HB6 : Below w5.heap.size w5 w6 := below_of hb6 rfl rfl rfl rfl; clear hb6)
              | (go_at_call 16; refine (HCV.out _ HB6).mono ?_; rintro e w7 ⟨rfl, hb7⟩; have HB7 := HB6.trans (hb7.mono HB6.size); clear hb7))
          rename_i hH
          have HF7 := Lib.hid (HF5.out.keep HB7)
          clear hH HB6 HB7 HF5 HQY HDS HCV
          go_wp2_with fail
          exact ⟨⟨j + 1, by omega, by go_num, HF7⟩, by simp [intOf]; omega⟩
        · have hr : RF j = (none, 0) := by rw [← HRF.out, r_gone hu e3]
          have e4 : ((j : Int) == (ix 3 : Int)) = false := beq_eq_false_iff_ne.mpr (by omega)
          clear hu
          go_wp2_with (first | (go_at_call 12; refine (zg_any gr n n j RF _ HF.out.1 hlt hr).mono ?_; rintro e wk ⟨rfl, hb⟩))
          exact ⟨⟨j + 1, by omega, by go_num, Lib.hid (HF.out.keep hb)⟩, by simp [intOf]; omega⟩
end Go.Proofs.Ytgicookbgfodbac.Co
