/-
  FnMangleSideRedeclaredSideDropsEarlierRule: the walk.
-/
import Derived.Test.YtelanacgjjdmnaaDoorBf
namespace Go.Proofs.YtelanacgjjdmnaaDoor.Bx
open Go.ChangeShapes Go.WideShapes Go.ChangeAt Go.RowKit Rg
set_option linter.unusedVariables false
set_option linter.unusedSimpArgs false
theorem ru_info : (Tryd.prog.info? 45).map (fun i => (i.zero, i.size, i.bytes)) = some (some (.agg #[.nilIface, .int .i32 0]), 2, 24) := by kernel_rfl
theorem infoDe : ∃ j, Tryd.prog.info? 41 = some j ∧ j.size = 6 := by
  have h : (Tryd.prog.info? 41).map (·.size) = some 6 := by kernel_rfl
  cases hx : Tryd.prog.info? 41 with
  | none => rw [hx] at h; simp at h
  | some j => rw [hx] at h; exact ⟨j, rfl, by simpa using h⟩
theorem pn_same (d : Nat) (w : World) : (binOp .neq 27 (.pointer (some ⟨d, 0, none⟩)) (.pointer (some ⟨d, 0, none⟩))).run Tryd.prog w = .ok (.bool false) w := by
  obtain ⟨j, hj, -⟩ := infoDe
  exact Lib.run_neq_ptr_same w _ Tryd.underlying27 hj
theorem z_free (d : Nat) : ∃ i, i < 4 ∧ i ≠ d ∧ (((fun _ => z0) : Nat → SD) i).k = 0 := by
  by_cases h : d = 0
  · exact ⟨1, by omega, by omega, rfl⟩
  · exact ⟨0, by omega, by omega, rfl⟩
theorem rv_one (d : Nat) (l : Int) : (#[Value.iface 27 (.pointer (some ⟨d, 0, none⟩)), .int .i32 l].all (·.oneCell')) = true := by simp [Value.oneCell']
theorem mk2 (W : World) : (Instr.makeSlice 26 (.int .i64 2) (.int .i64 2)).run Tryd.prog W = .ok (.slice (some ⟨W.heap.size, 0, none⟩) 2 2) (W.alloc (.cells #[.nilIface, .int .i32 0, .nilIface, .int .i32 0] 45)) := by kernel_rfl
theorem DC.new (w : World) (c l : Int) (kt : ByteArray) (imp : Bool) (t t' : TypeId) : DC (w.heap.size + 1) w.heap.size c l kt imp ((w.alloc (.cells (tkR c l).toArray t)).alloc (.cells #[.string kt, .slice (some ⟨w.heap.size, 0, none⟩) 1 1, .int .i32 0, .int .i32 0, .int .u16 0, .bool imp] t')) := by
  have r1 := rg_new (w.alloc (.cells (tkR c l).toArray t)) #[.string kt, .slice (some ⟨w.heap.size, 0, none⟩) 1 1, .int .i32 0, .int .i32 0, .int .u16 0, .bool imp] t'
  rw [show (w.alloc (.cells (tkR c l).toArray t)).heap.size = w.heap.size + 1 by simp] at r1
  exact ⟨r1, rg_keep ((Below.refl _ _).alloc (Nat.le_refl _) _) (rg_new w (tkR c l).toArray t)⟩
theorem RL.new (w : World) (t : TypeId) : RL w.heap.size (.nilIface, 0) (.nilIface, 0) (w.alloc (.cells #[.nilIface, .int .i32 0, .nilIface, .int .i32 0] t)) := by
  have hr : (w.alloc (.cells #[.nilIface, .int .i32 0, .nilIface, .int .i32 0] t)).rangeAt w.heap.size 0 [.nilIface, .int .i32 0, .nilIface, .int .i32 0] := rg_new w #[.nilIface, .int .i32 0, .nilIface, .int .i32 0] t
  exact ⟨rg_left (cs := [.nilIface, .int .i32 0]) (ds := [.nilIface, .int .i32 0]) hr, rg_right (cs := [.nilIface, .int .i32 0]) (ds := [.nilIface, .int .i32 0]) hr, th_new w _ _ rfl⟩
set_option maxRecDepth 100000 in
set_option maxHeartbeats 8000000 in
theorem law47 (mg : Bool) (a b s0 s1 : Int) (i0 i1 : Bool) (l0 l1 : Int) (mf : Bool) (w : World) (ha : 0 ≤ a ∧ a ≤ 255) (hb : 0 ≤ b ∧ b ≤ 255) (h0 : 0 ≤ s0 ∧ s0 ≤ 255) (h1 : 0 ≤ s1 ∧ s1 ≤ 255) :
    Calls Tryd.prog 3 #[.bool mg, .int .u8 a, .int .u8 b, .int .u8 s0, .int .u8 s1, .bool i0, .bool i1, .int .i32 l0, .int .i32 l1, .bool mf] w fun e w' => e = .returned (.bool true) ∧ Below w.heap.size w w' := by
  obtain ⟨ca, hca, hca0, hca4⟩ : ∃ ca, a.tmod 5 = ca ∧ 0 ≤ ca ∧ ca ≤ 4 := ⟨a % 5, by rw [Int.tmod_eq_emod_of_nonneg ha.1], by omega, by omega⟩
  obtain ⟨cb, hcb, hcb0, hcb4⟩ : ∃ cb, b.tmod 5 = cb ∧ 0 ≤ cb ∧ cb ≤ 4 := ⟨b % 5, by rw [Int.tmod_eq_emod_of_nonneg hb.1], by omega, by omega⟩
  obtain ⟨d0, hd0, hd04⟩ : ∃ d : Nat, s0.tmod 4 = (d : Int) ∧ d < 4 := ⟨(s0 % 4).toNat, by rw [Int.tmod_eq_emod_of_nonneg h0.1]; omega, by omega⟩
  obtain ⟨d1, hd1, hd14⟩ : ∃ d : Nat, s1.tmod 4 = (d : Int) ∧ d < 4 := ⟨(s1 % 4).toNat, by rw [Int.tmod_eq_emod_of_nonneg h1.1]; omega, by omega⟩
  have hz0 := fun W => zt_any ca l0 ⟨hca0, hca4⟩ W
  have hz1 := fun W => zt_any cb l1 ⟨hcb0, hcb4⟩ W
  unfold tkR at hz0 hz1
  have HZ0 := Lib.hid hz0
  have HZ1 := Lib.hid hz1
  clear hz0 hz1
  obtain ⟨ha0, ha1⟩ := ha
  obtain ⟨hb0, hb1⟩ := hb
  obtain ⟨h00, h01⟩ := h0
  obtain ⟨h10, h11⟩ := h1
  have p0 : (0 : Int) ≤ d0 := by omega
  have p1 : (d0 : Int) < 4 := by omega
  have p2 : (0 : Int) ≤ d1 := by omega
  have p3 : (d1 : Int) < 4 := by omega
  go_enter Tryd.func3, Tryd.ntmps3
  go_upto_if 42 with fail
  go_cut [25, 26] (fun k t wx => ∃ (key : Int) (kt : ByteArray), k = .int .u16 key ∧ t = .string kt ∧ ¬ key = 0 ∧ Hid (Below w.heap.size w wx))
  case first =>
    cases mg with
    | false =>
      go_wp2_with fail
      go_meet
      exact ⟨_, _, rfl, rfl, by decide, Lib.hid (Below.refl _ _)⟩
    | true =>
      go_wp2_with fail
      go_meet
      exact ⟨_, _, rfl, rfl, by decide, Lib.hid (Below.refl _ _)⟩
  case rest =>
  obtain ⟨key, kt, rfl, rfl, hkey, HB0⟩ := hcut
  have HK := Lib.hid hkey
  clear hkey hca hcb hd0 hd1 ha0 ha1 hb0 hb1 h00 h01 h10 h11
  have hmk := mk2
  go_upto_region 11 with (first | (go_at_call 4; refine (nb_any kt mg false key wc).mono ?_; rintro e w1 ⟨bx, rfl, hbx, hbl, hb1⟩))
  have HX1 := Lib.hid hbx
  have HB1 := Lib.hid (HB0.out.trans (hb1.mono HB0.out.size))
  have HL1 : Hid (w.heap.size ≤ bx) := Lib.hid (Nat.le_trans HB0.out.size hbl)
  clear hbx hbl hb1 HB0
  go_upto_region 12 with fail
  have al1 : Below w1.heap.size w1 (w1.alloc (.cells #[.nilIface, .int .i32 0, .nilIface, .int .i32 0] 45)) := (Below.refl _ _).alloc (Nat.le_refl _) _
  have hR2 := RL.new w1 45
  have HX2 := Lib.hid (HX1.out.keep al1)
  have hbxgr : bx < w1.heap.size := HX1.out.lt
  have HB2 := Lib.hid (HB1.out.trans (al1.mono HB1.out.size))
  have hgr : w.heap.size ≤ w1.heap.size := HB1.out.size
  clear al1 HX1 HB1 hmk
  generalize World.alloc w1 _ = w2 at *
  generalize w1.heap.size = gr at *
  have HR2 := Lib.hid hR2
  clear hR2
  go_upto_region 13 with (first | (go_at_call 5; refine (HZ0.out w2).mono ?_; rintro e w3 ⟨rfl, hb3⟩))
  have hD := DC.new w3 ca l0 kt i0 35 41
  have al3 : Below w3.heap.size w3 ((w3.alloc (.cells (tkR ca l0).toArray 35)).alloc (.cells #[.string kt, .slice (some ⟨w3.heap.size, 0, none⟩) 1 1, .int .i32 0, .int .i32 0, .int .u16 0, .bool i0] 41)) := ((Below.refl _ _).alloc (Nat.le_refl _) _).alloc (by simp) _
  have hb4 := hb3.trans (al3.mono hb3.size)
  have hgr3 : gr < w3.heap.size := Nat.lt_of_lt_of_le HR2.out.lt hb3.size
  unfold tkR at hD al3 hb4
  have HD4 := Lib.hid hD
  have HX4 := Lib.hid (HX2.out.keep hb4)
  have HR4 := Lib.hid (HR2.out.keep hb4)
  have HB4 := Lib.hid (HB2.out.trans (hb4.mono HB2.out.size))
  have hw23 := hb3.size
  clear hD al3 hb3 hb4 HX2 HR2 HB2
  generalize ((w3.alloc _).alloc _) = w4 at *
  obtain ⟨dd, hdd⟩ : ∃ x, w3.heap.size + 1 = x := ⟨_, rfl⟩
  rw [hdd] at HD4 ⊢
  generalize w3.heap.size = vv at *
  have HR5 := Lib.hid (HR4.out.put0 (.iface 27 (.pointer (some ⟨dd, 0, none⟩)), l0))
  have HTR := Lib.hid (th_sub (o' := 0) (m := 2) HR4.out.2.2 (by omega) (by omega))
  have hvg : vv ≠ gr := by omega
  have hdg : dd ≠ gr := by omega
  have hxg : bx ≠ gr := by omega
  have hdb : dd ≠ bx := by omega
  have hvb : vv ≠ bx := by omega
  have HD5 := Lib.hid (HD4.out.sets hdg hvg 0 (rvR (.iface 27 (.pointer (some ⟨dd, 0, none⟩)), l0)))
  have HX5 := Lib.hid (HX4.out.sets hxg 0 (rvR (.iface 27 (.pointer (some ⟨dd, 0, none⟩)), l0)))
  have HB5 := Lib.hid (below_setCells hgr (rvR (.iface 27 (.pointer (some ⟨dd, 0, none⟩)), l0)) 0 HB4.out)
  go_upto_region 14 with (first | (refine wpList_store_mid rfl 45 _ _ rfl gr 0 #[.iface 27 (.pointer (some ⟨dd, 0, none⟩)), .int .i32 l0] rfl rfl HTR.out szRu (rv_one _ _) ?_))
  change Code.wp _ _ _ (Act.mk _ _) _
  change Code.wp _ _ _ _ (World.setCells w4 gr 0 (rvR (.iface 27 (.pointer (some ⟨dd, 0, none⟩)), l0)))
  clear HX4 HR4 HB4 HD4 HTR
  generalize World.setCells w4 gr 0 _ = w5 at *
  obtain ⟨c1, c2, c3, c5⟩ := HD5.out.cells
  have HT5 := Lib.hid (th_sub (o' := 0) (m := 1 * 2) HR5.out.2.2 (by omega) (by omega))
  have hbw5 := HB5.out.size
  go_upto_region 15 with (first | (go_at_call 6; refine (zm_any ca l0 bx gr 1 2 dd vv d0 kt mg false i0 mf key 0 0 (fun _ => z0) (fun _ => z0) w5 ⟨hca0, hca4⟩ HX5.out HT5.out (by omega) (by omega) hxg hdg hdb hvb hd04 HK.out c5 c1 c2 c3 HD5.out.2 (by split <;> rfl) (fun h => absurd rfl h) (z_free d0)).mono ?_; rintro e w6 ⟨rfl, hms⟩))
  obtain ⟨hx6, g6⟩ := ms_first hms
  have hL1 := HL1.out
  have HX6 := Lib.hid hx6
  have HR6 := Lib.hid (HR5.out.grown g6 (fun e => hxg e.symm))
  have HD6 := Lib.hid (HD5.out.grown g6 hdb hvb)
  have HB6 : Hid (Below w.heap.size w w6) := Lib.hid (HB5.out.trans ⟨g6.os, g6.tape, g6.output, g6.size, fun k hk => g6.block k (by omega) (fun e => by injection e; omega)⟩)
  clear hms hx6 g6 HX5 HR5 HD5 HB5 HT5 c1 c2 c3 c5 hbw5 hw23 hgr3
  have hbw6 := HB6.out.size
  have hlt6 := HD6.out.lt
  have hgt6 := HR6.out.lt
  have hxt6 := HX6.out.lt
  go_upto_region 16 with (first | (go_at_call 5; refine (HZ1.out w6).mono ?_; rintro e w7 ⟨rfl, hb7⟩))
  have hD := DC.new w7 cb l1 kt i1 35 41
  have al7 : Below w7.heap.size w7 ((w7.alloc (.cells (tkR cb l1).toArray 35)).alloc (.cells #[.string kt, .slice (some ⟨w7.heap.size, 0, none⟩) 1 1, .int .i32 0, .int .i32 0, .int .u16 0, .bool i1] 41)) := ((Below.refl _ _).alloc (Nat.le_refl _) _).alloc (by simp) _
  have hb8 := hb7.trans (al7.mono hb7.size)
  have hw67 := hb7.size
  unfold tkR at hD al7 hb8
  have HD8 := Lib.hid hD
  have HE8 := Lib.hid (HD6.out.keep hb8)
  have HX8 := Lib.hid (HX6.out.keep hb8)
  have HR8 := Lib.hid (HR6.out.keep hb8)
  have HB8 := Lib.hid (HB6.out.trans (hb8.mono HB6.out.size))
  clear hD al7 hb7 hb8 HX6 HR6 HB6 HD6
  generalize ((w7.alloc _).alloc _) = w8 at *
  obtain ⟨ee, hee⟩ : ∃ x, w7.heap.size + 1 = x := ⟨_, rfl⟩
  rw [hee] at HD8 ⊢
  generalize w7.heap.size = uu at *
  have hug : uu ≠ gr := by omega
  have heg : ee ≠ gr := by omega
  have heb : ee ≠ bx := by omega
  have hub : uu ≠ bx := by omega
  have HR9 := Lib.hid (HR8.out.put1 (.iface 27 (.pointer (some ⟨ee, 0, none⟩)), l1))
  have HTR := Lib.hid (th_sub (o' := 2) (m := 2) HR8.out.2.2 (by omega) (by omega))
  have HD9 := Lib.hid (HD8.out.sets heg hug 2 (rvR (.iface 27 (.pointer (some ⟨ee, 0, none⟩)), l1)))
  have HE9 := Lib.hid (HE8.out.sets hdg hvg 2 (rvR (.iface 27 (.pointer (some ⟨ee, 0, none⟩)), l1)))
  have HX9 := Lib.hid (HX8.out.sets hxg 2 (rvR (.iface 27 (.pointer (some ⟨ee, 0, none⟩)), l1)))
  have HB9 := Lib.hid (below_setCells hgr (rvR (.iface 27 (.pointer (some ⟨ee, 0, none⟩)), l1)) 2 HB8.out)
  go_upto_region 17 with (first | (refine wpList_store_mid rfl 45 _ _ rfl gr 2 #[.iface 27 (.pointer (some ⟨ee, 0, none⟩)), .int .i32 l1] rfl rfl HTR.out szRu (rv_one _ _) ?_))
  change Code.wp _ _ _ (Act.mk _ _) _
  change Code.wp _ _ _ _ (World.setCells w8 gr 2 (rvR (.iface 27 (.pointer (some ⟨ee, 0, none⟩)), l1)))
  clear HX8 HR8 HB8 HD8 HE8 HTR
  generalize World.setCells w8 gr 2 _ = w9 at *
  obtain ⟨c1, c2, c3, c5⟩ := HD9.out.cells
  have HT9 := Lib.hid (th_sub (o' := 0) (m := 2 * 2) HR9.out.2.2 (by omega) (by omega))
  obtain ⟨σ3, hσ⟩ : ∃ σ, σ = if i0 = i1 then s2 ca l0 mg d0 else fun _ => z0 := ⟨_, rfl⟩
  have HSG := Lib.hid hσ
  clear hσ
  have hbw9 := HB9.out.size
  go_upto_region 18 with (first | (go_at_call 6; refine (zm_any cb l1 bx gr 2 2 ee uu d1 kt mg i0 i1 mf key 0 0 (s2 ca l0 mg d0) σ3 w9 ⟨hcb0, hcb4⟩ HX9.out HT9.out (by omega) (by omega) hxg heg heb hub hd14 HK.out c5 c1 c2 c3 HD9.out.2 HSG.out (fun h => by obtain ⟨a1, a2, -⟩ := (s3_k (sd1 := d1) HSG.out).2 h; exact ⟨a1, by rw [a2]; omega⟩) (s3_z HSG.out)).mono ?_; rintro e wa ⟨rfl, hms⟩))
  obtain ⟨q1, q2, q3, q4⟩ := ms_second HSG.out hms HR9.out (fun e => hxg e.symm)
  have HQ1 := Lib.hid q1
  have HQ2 := Lib.hid q2
  have HDa := Lib.hid (q3 dd vv ca l0 i0 hdb hvb hdg hvg HE9.out)
  have HDb := Lib.hid (q3 ee uu cb l1 i1 heb hub heg hug HD9.out)
  have HBa := Lib.hid (HB9.out.trans (q4 _ hL1 hgr HB9.out.size))
  clear hms q1 q2 q3 q4 HX9 HR9 HD9 HE9 HB9 HT9 HSG c1 c2 c3 c5 HZ0 HZ1
  go_cut [31] (fun u wx => ∃ q : Bool, u = .bool q ∧ Hid (q = true ↔ dr ca cb mg d0 d1 i0 i1) ∧ Hid (wx = wa))
  case first =>
    have hza := fun W => za_any ca mg W ⟨hca0, hca4⟩
    have hzb := fun W => za_any cb mg W ⟨hcb0, hcb4⟩
    by_cases e1 : d0 = d1
    case neg =>
      have x1 : ((d0 : Int) == (d1 : Int)) = false := beq_eq_false_iff_ne.mpr (by omega)
      clear hza hzb
      go_wp2_with fail
      go_meet
      exact ⟨false, rfl, Lib.hid ⟨fun h => (by cases h), fun h => absurd h.1 e1⟩, Lib.hid rfl⟩
    have x1 : ((d0 : Int) == (d1 : Int)) = true := by rw [beq_iff_eq]; omega
    have E1 := Lib.hid e1
    clear e1
    by_cases e2 : i0 = i1
    case neg =>
      have x2 : (i0 == i1) = false := beq_eq_false_iff_ne.mpr e2
      clear hza hzb
      go_wp2_with fail
      go_meet
      exact ⟨false, rfl, Lib.hid ⟨fun h => (by cases h), fun h => absurd h.2.1 e2⟩, Lib.hid rfl⟩
    have x2 : (i0 == i1) = true := beq_iff_eq.2 e2
    have E2 := Lib.hid e2
    clear e2
    by_cases e3 : ca ≠ 3 ∨ mg = true
    case neg =>
      rw [decide_eq_false e3] at hza
      have HZA := Lib.hid hza
      have HZB := Lib.hid hzb
      have E3 := Lib.hid e3
      clear hza hzb e3
      go_wp2_with (first | (go_at_call_of 7 ca; refine (HZA.out _).mono ?_; rintro e wk ⟨rfl, hwk⟩; rw [hwk]; clear hwk) | (go_at_call_of 7 cb; refine (HZB.out _).mono ?_; rintro e wk ⟨rfl, hwk⟩; rw [hwk]; clear hwk))
      go_meet
      exact ⟨false, rfl, Lib.hid ⟨fun h => (by cases h), fun h => absurd h.2.2.1 E3.out⟩, Lib.hid rfl⟩
    rw [decide_eq_true e3] at hza
    have HZA := Lib.hid hza
    have E3 := Lib.hid e3
    clear hza e3
    by_cases e4 : cb ≠ 3 ∨ mg = true
    case neg =>
      rw [decide_eq_false e4] at hzb
      have HZB := Lib.hid hzb
      have E4 := Lib.hid e4
      clear hzb e4
      go_wp2_with (first | (go_at_call_of 7 ca; refine (HZA.out _).mono ?_; rintro e wk ⟨rfl, hwk⟩; rw [hwk]; clear hwk) | (go_at_call_of 7 cb; refine (HZB.out _).mono ?_; rintro e wk ⟨rfl, hwk⟩; rw [hwk]; clear hwk))
      go_meet
      exact ⟨false, rfl, Lib.hid ⟨fun h => (by cases h), fun h => absurd h.2.2.2.1 E4.out⟩, Lib.hid rfl⟩
    rw [decide_eq_true e4] at hzb
    have HZB := Lib.hid hzb
    have E4 := Lib.hid e4
    clear hzb e4
    by_cases e5 : ca = 4
    · subst e5
      go_wp2_with (first | (go_at_call_of 7 cb; refine (HZB.out _).mono ?_; rintro e wk ⟨rfl, hwk⟩; rw [hwk]; clear hwk) | (go_at_call 7; refine (HZA.out _).mono ?_; rintro e wk ⟨rfl, hwk⟩; rw [hwk]; clear hwk))
      go_meet
      exact ⟨false, rfl, Lib.hid ⟨fun h => (by cases h), fun h => absurd rfl h.2.2.2.2.1⟩, Lib.hid rfl⟩
    have x5 : (ca == 4) = false := beq_eq_false_iff_ne.mpr e5
    have x5' : (ca != 4) = true := bne_iff_ne.2 e5
    have E5 := Lib.hid e5
    clear e5
    by_cases e6 : cb = 4
    · subst e6
      go_wp2_with (first | (go_at_call_of 7 ca; refine (HZA.out _).mono ?_; rintro e wk ⟨rfl, hwk⟩; rw [hwk]; clear hwk) | (go_at_call 7; refine (HZB.out _).mono ?_; rintro e wk ⟨rfl, hwk⟩; rw [hwk]; clear hwk))
      go_meet
      exact ⟨false, rfl, Lib.hid ⟨fun h => (by cases h), fun h => absurd rfl h.2.2.2.2.2⟩, Lib.hid rfl⟩
    have x6 : (cb == 4) = false := beq_eq_false_iff_ne.mpr e6
    have x6' : (cb != 4) = true := bne_iff_ne.2 e6
    have E6 := Lib.hid e6
    clear e6
    go_wp2_with (first | (go_at_call_of 7 ca; refine (HZA.out _).mono ?_; rintro e wk ⟨rfl, hwk⟩; rw [hwk]; clear hwk) | (go_at_call_of 7 cb; refine (HZB.out _).mono ?_; rintro e wk ⟨rfl, hwk⟩; rw [hwk]; clear hwk))
    go_meet
    exact ⟨true, rfl, Lib.hid ⟨fun _ => ⟨E1.out, E2.out, E3.out, E4.out, E5.out, E6.out⟩, fun _ => rfl⟩, Lib.hid rfl⟩
  case rest =>
  obtain ⟨q, rfl, HQ, HW⟩ := hcut
  have hwc := HW.out
  rw [hwc]
  clear hwc HW
  have pn := pn_same
  cases q with
  | true =>
    have hR := HQ1.out (HQ.out.1 rfl)
    have HR := Lib.hid hR
    have g0 := hR.2.1 0 _ rfl
    have g1 := hR.2.1 1 _ rfl
    simp only [Nat.reduceAdd] at g0 g1
    try dsimp only at g0 g1
    clear hR HQ HQ1 HQ2
    go_upto_region 21 with (first | (go_at_call 8; refine (do_any ee l1 _).mono ?_; rintro e wk ⟨rfl, hb⟩; have g3 := later hb g1))
    have HRk := Lib.hid (HR.out.keep hb)
    have HDk := Lib.hid (HDa.out.keep hb)
    have HEk := Lib.hid (HDb.out.keep hb)
    have HBk := Lib.hid (HBa.out.trans (hb.mono HBa.out.size))
    clear g0 g1 g3 hb HR HDa HDb HBa
    have g0 := HRk.out.1 0 _ rfl
    have g1 := HRk.out.1 1 _ rfl
    simp only [Nat.zero_add] at g0 g1
    try dsimp only at g0 g1
    go_upto_region 26 with (first | (go_at_call 9; refine (hd_nil 0 _).mono ?_; rintro e wl ⟨rfl, hb⟩; have g3 := later hb g1))
    have HDl := Lib.hid (HDk.out.keep hb)
    have HEl := Lib.hid (HEk.out.keep hb)
    have HBl := Lib.hid (HBk.out.trans (hb.mono HBk.out.size))
    clear g0 g1 g3 hb HRk HDk HEk HBk
    have a1 := HDl.out.cells.1
    obtain ⟨t0, t1, t2, t3, t4, t5, t6⟩ := cells7 HDl.out.2
    have z1 := zi_any ca l0
    have z2 := zi_any cb l1
    unfold tkR at z1 z2
    have HZ1 := Lib.hid z1
    have HZ2 := Lib.hid z2
    clear z1 z2
    go_wp2_with (first
      | (go_at_call_of 10 l0; refine (HZ1.out wl ⟨hca0, hca4⟩).mono ?_; rintro e wm ⟨rfl, hb⟩; have HBm := Lib.hid (HBl.out.trans (hb.mono HBl.out.size)); have HEm := Lib.hid (HEl.out.keep hb); have b1 := HEm.out.cells.1; obtain ⟨s0', s1', s2', s3', s4', s5', s6'⟩ := cells7 HEm.out.2; clear hb HBl)
      | (go_at_call_of 10 l1; refine (HZ2.out _ ⟨hcb0, hcb4⟩).mono ?_; rintro e wn ⟨rfl, hb⟩; have HBn := Lib.hid (HBm.out.trans (hb.mono HBm.out.size)); clear hb))
    go_ret
    exact ⟨rfl, HBn.out⟩
  | false =>
    have hR := HQ2.out (fun h => by have := HQ.out.2 h; cases this)
    have HR := Lib.hid hR
    have g0 := hR.2.1 0 _ rfl
    have g1 := hR.2.1 1 _ rfl
    simp only [Nat.reduceAdd] at g0 g1
    try dsimp only at g0 g1
    clear hR HQ HQ1 HQ2
    go_upto_region 21 with (first | (go_at_call 8; refine (do_any ee l1 _).mono ?_; rintro e wk ⟨rfl, hb⟩; have g3 := later hb g1))
    have HRk := Lib.hid (HR.out.keep hb)
    have HDk := Lib.hid (HDa.out.keep hb)
    have HEk := Lib.hid (HDb.out.keep hb)
    have HBk := Lib.hid (HBa.out.trans (hb.mono HBa.out.size))
    clear g0 g1 g3 hb HR HDa HDb HBa
    have g0 := HRk.out.1 0 _ rfl
    have g1 := HRk.out.1 1 _ rfl
    simp only [Nat.zero_add] at g0 g1
    try dsimp only at g0 g1
    go_upto_region 26 with (first | (go_at_call 8; refine (do_any dd l0 _).mono ?_; rintro e wl ⟨rfl, hb⟩; have g3 := later hb g1))
    have HDl := Lib.hid (HDk.out.keep hb)
    have HEl := Lib.hid (HEk.out.keep hb)
    have HBl := Lib.hid (HBk.out.trans (hb.mono HBk.out.size))
    clear g0 g1 g3 hb HRk HDk HEk HBk
    have a1 := HDl.out.cells.1
    obtain ⟨t0, t1, t2, t3, t4, t5, t6⟩ := cells7 HDl.out.2
    have z1 := zi_any ca l0
    have z2 := zi_any cb l1
    unfold tkR at z1 z2
    have HZ1 := Lib.hid z1
    have HZ2 := Lib.hid z2
    clear z1 z2
    go_wp2_with (first
      | (go_at_call_of 10 l0; refine (HZ1.out wl ⟨hca0, hca4⟩).mono ?_; rintro e wm ⟨rfl, hb⟩; have HBm := Lib.hid (HBl.out.trans (hb.mono HBl.out.size)); have HEm := Lib.hid (HEl.out.keep hb); have b1 := HEm.out.cells.1; obtain ⟨s0', s1', s2', s3', s4', s5', s6'⟩ := cells7 HEm.out.2; clear hb HBl)
      | (go_at_call_of 10 l1; refine (HZ2.out _ ⟨hcb0, hcb4⟩).mono ?_; rintro e wn ⟨rfl, hb⟩; have HBn := Lib.hid (HBm.out.trans (hb.mono HBm.out.size)); clear hb))
    go_ret
    exact ⟨rfl, HBn.out⟩
end Go.Proofs.YtelanacgjjdmnaaDoor.Bx
