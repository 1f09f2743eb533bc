/-
  mangleCorner at a value of two tokens; at both lengths.
-/
import Derived.Test.YtmaljklijpoojaaDoorCw
namespace Go.Proofs.YtmaljklijpoojaaDoor.Co
open Go.ChangeShapes Go.WideShapes Go.ChangeAt Go.RowKit Rg Quad
set_option linter.unusedVariables false
set_option linter.unusedSimpArgs false
set_option maxRecDepth 100000 in
set_option maxHeartbeats 8000000 in
theorem mc_1 (m1 m2 : Int) (t r n cr d v side : Nat) (imp di mf : Bool) (a2 a3 : Int) (Q : QQ) (R : Nat → RU) (lc : Nat → Int) (w : World)
    (hm1 : 0 ≤ m1 ∧ m1 < 8) (hm2 : 0 ≤ m2 ∧ m2 < 8) (hN : 2 = if true then 2 else 1) (hpm : true = false → m2 = m1)
    (hT : TG (cnQ Q) imp t w) (hI : imp = di ∨ Q = fun _ => none) (hQ : okQ Q) (hside : Q side = none) (hs : side < 4) (hn : n = side + 1)
    (hR : RR w r n R) (hth : w.there r 0 (n * 2)) (hlc : ∀ i, i < n → (R i).2 = lc i) (ha3 : side = 3 → a3 = 3) (hmg : mrg (nQ Q side m1 m2) → side = 3)
    (hd : Bk w d 45 (deC v 2 2 a2 a3 di).toArray) (hv : Bk w v 39 (vlC true m1 m2).toArray)
    (htr : t ≠ r) (htd : t ≠ d) (htv : t ≠ v) (hrd : r ≠ d) (hrv : r ≠ v) (hdv : d ≠ v) :
    Calls Tryd.prog 14 #[.pointer (some ⟨t, 0, none⟩), .slice (some ⟨r, 0, none⟩) n cr, .pointer (some ⟨d, 0, none⟩), .bool mf, .int .i64 (side : Int)] w fun e w' => e = .returned (.tuple #[]) ∧ McP m1 m2 true 2 2 t r n d v side di mf a2 a3 Q R lc w w' := by
  have htl : t < w.heap.size := World.block_lt_of_cell? w _ hT.2.1
  have hrl : r < w.heap.size := th_lt hth (by omega)
  have hdl := hd.lt
  have hvl := hv.lt
  have ne : ∀ {x : Nat}, t ≠ x → some x ≠ some t := fun h e => h (by injection e with e; exact e.symm)
  have HDV : Hid (∀ w' : World, w.grownBy w' (some t) → Bk w' d 45 (deC v 2 2 a2 a3 di).toArray ∧ Bk w' v 39 (vlC true m1 m2).toArray) :=
    Lib.hid fun w' hg => ⟨hd.grown hg (ne htd), hv.grown hg (ne htv)⟩
  have HRR : Hid (∀ w' : World, KX (fun i => i = t ∨ i = d ∨ i = v) w w' → RR w' r n R ∧ w'.there r 0 (n * 2)) := Lib.hid fun w' hg => by
    have hnr : ¬ (r = t ∨ r = d ∨ r = v) := by omega
    exact ⟨fun j hj => hg.rg (hR j hj) hnr, hg.th hth hnr hrl⟩
  have HT := Lib.hid hT
  have HNE := Lib.hid (And.intro (And.intro htr (And.intro htd (And.intro htv (And.intro hrd (And.intro hrv hdv))))) (And.intro htl (And.intro hrl (And.intro hdl hvl))))
  have HI := Lib.hid (And.intro hI (And.intro hQ (And.intro hside (And.intro hs (And.intro hn (And.intro hlc (And.intro ha3 hmg)))))))
  have HP := Lib.hid (And.intro hN hpm)
  have e72 := hT.2.1
  have ed5 : w.cell? ⟨d, 5, none⟩ = some (.bool di) := hd.cell 5 rfl
  clear hT hd hv hR hth hI hQ hside hlc ne hmg ha3 htr htd htv hrd hrv hdv hN hpm hn
  go_enter Tryd.func14, Tryd.ntmps14
  go_upto_region 0 with fail
  go_quiet (fail)
  have HTq : Hid (TG (cnQ Q) imp t (w.drewN nq)) := Lib.hid (HT.out.keep ⟨rfl, rfl, rfl, Nat.le_refl _, fun _ _ => rfl⟩)
  have HGq : Hid (w.grownBy (w.drewN nq) (some t)) := Lib.hid (gb_below ⟨rfl, rfl, rfl, Nat.le_refl _, fun _ _ => rfl⟩)
  clear e72 ed5 HT
  generalize hwq : w.drewN nq = wq at *
  clear hwq
  go_upto_if 22 with fail
  go_cut [] (fun wc => Hid (TG (cnQ Q) di t wc) ∧ Hid (w.grownBy wc (some t)))
  case first =>
    -- <part
    have HT1 := Lib.hid (th_sub (o' := 0) (m := 72) HTq.out.2.2 (by omega) (by omega))
    have q72 := HTq.out.2.1
    cases hi : imp <;> cases hd : di
    case false.false =>
      go_wp2_with fail
      go_meet
      exact ⟨by rw [hi] at HTq; rw [hd]; exact HTq, HGq⟩
    case true.true =>
      go_wp2_with fail
      go_meet
      exact ⟨by rw [hi] at HTq; rw [hd]; exact HTq, HGq⟩
    all_goals
      have hq0 : Q = fun _ => none := by
        rcases HI.out.1 with h | h
        · rw [hi, hd] at h; cases h
        · exact h
      have HQ0 := Lib.hid hq0
      clear hq0
      go_upto_region 2 with (first | (refine wpl_build0 rfl 67 rfl (.agg Z72.toArray) (bldZ72 _) ?_) | (refine wpList_store_mid rfl 67 _ _ rfl t 0 Z72.toArray rfl rfl HT1.out szZ72 Z72_one ?_))
      change Code.wp _ _ _ (Act.mk _ _) _
      change Code.wp _ _ _ _ (World.setCells wq t 0 Z72)
      have HTz := HTq.out.zero
      have HGz := gb_sets HGq.out 0 Z72
      clear q72 HT1
      generalize World.setCells wq t 0 Z72 = wz at *
      have ed5 : wz.cell? ⟨d, 5, none⟩ = some (.bool di) := (HDV.out wz HGz).1.cell 5 rfl
      have e72 := HTz.2.1
      have f72 := (HTz.2.2 72 (by omega)).2
      rw [Nat.zero_add] at f72
      rw [hd] at ed5
      have HTZ := Lib.hid (HTz.imp_ di)
      have HGZ := Lib.hid (gb_set HGz 72 (.bool di))
      clear HTz HGz
      rw [hd] at HTZ HGZ
      go_wp2_with fail
      go_meet
      exact ⟨by rw [HQ0.out, hd]; exact HTZ, HGZ⟩
    -- part>
  case rest =>
    clear HTq HGq
    obtain ⟨HT, HG⟩ := hcut
    have d1 : wc.cell? ⟨d, 1, none⟩ = some (.slice (some ⟨v, 0, none⟩) 2 2) := (HDV.out wc HG.out).1.cell 1 rfl
    have v5 : wc.cell? ⟨v, 5, none⟩ = some (.int .u8 (tK m1)) := (HDV.out wc HG.out).2.cell 5 rfl
    have v12 : wc.cell? ⟨v, 12, none⟩ = some (.int .u8 (tK m2)) := (HDV.out wc HG.out).2.cell 12 rfl
    go_upto_region 4 with fail
    go_cut [66] (fun x wc => x = .bool (decide (m1 ≤ 5 ∧ m2 ≤ 5)) ∧ Hid (TG (cnQ Q) di t wc) ∧ Hid (w.grownBy wc (some t)))
    case first =>
      -- <part
      obtain ⟨b1, hb1⟩ : ∃ b, decide (m1 ≤ 5) = b := ⟨_, rfl⟩
      obtain ⟨b2, hb2⟩ : ∃ b, decide (m2 ≤ 5) = b := ⟨_, rfl⟩
      have hn1 := fun W => nu_any m1 hm1 W
      have hn2 := fun W => nu_any m2 hm2 W
      rw [hb1] at hn1
      rw [hb2] at hn2
      have hdec : decide (m1 ≤ 5 ∧ m2 ≤ 5) = (b1 && b2) := by rw [← hb1, ← hb2]; exact Bool.decide_and _ _
      have HDE := Lib.hid (And.intro hdec (And.intro hb1 hb2))
      have HX1 := Lib.hid hn1
      have HX2 := Lib.hid hn2
      clear hn1 hn2 hdec hb1 hb2 d1
      generalize tK m1 = k1 at *
      generalize tK m2 = k2 at *
      cases b1
      case false =>
        go_wp2_with (first | (go_at_call_of 18 k1; refine (HX1.out _).mono ?_; rintro e wk ⟨rfl, hwk⟩; rw [hwk]; clear hwk))
        go_meet
        exact ⟨by rw [HDE.out.1]; rfl, HT, HG⟩
      case true =>
        cases b2
        all_goals
          go_wp2_with (first | (go_at_call_of 18 k1; refine (HX1.out _).mono ?_; rintro e wk ⟨rfl, hwk⟩; rw [hwk]; clear hwk) | (go_at_call_of 18 k2; refine (HX2.out _).mono ?_; rintro e wk ⟨rfl, hwk⟩; rw [hwk]; clear hwk))
          go_meet
          exact ⟨by rw [HDE.out.1]; rfl, HT, HG⟩
      -- part>
    case rest =>
    clear HT HG d1 v5
    obtain ⟨rfl, HT, HG⟩ := hcut
    by_cases hnum : m1 ≤ 5 ∧ m2 ≤ 5
    case neg =>
      have HQN : Hid (nQ Q side m1 m2 = fun _ => none) := Lib.hid (by unfold nQ; rw [if_neg hnum])
      have HNN2 : Hid (nN true m1 m2 2 = 2) := Lib.hid (by unfold nN; rw [if_neg (fun h => hnum ⟨h.1, h.2.1⟩)])
      rw [decide_eq_false hnum]
      clear hnum
      have HT1 := Lib.hid (th_sub (o' := 0) (m := 72) HT.out.2.2 (by omega) (by omega))
      go_wp2_with (first | (refine wpl_build0 rfl 67 rfl (.agg Z72.toArray) (bldZ72 _) ?_) | (refine wpList_store_mid rfl 67 _ _ rfl t 0 Z72.toArray rfl rfl HT1.out szZ72 Z72_one ?_))
      (try simp only [Exit.inBlock, Exit.then])
      refine bodyPost_end (results_none rfl _ _ _) rfl ?_
      refine ⟨rfl, ?_⟩
      have hG2 := gb_sets HG.out 0 Z72
      obtain ⟨hD2, hV2⟩ := HDV.out _ hG2
      unfold McP
      rw [HQN.out, HNN2.out]
      have hnm : ¬ mrg (fun _ => none) := fun h => by obtain ⟨a, b, e, _⟩ := h 0 (by omega); cases e
      exact ⟨KX.of_grown hG2 (.inl rfl), fun _ => HT.out.zero, hD2, hV2, fun h => absurd h hnm⟩
    case pos =>
    rw [decide_eq_true hnum]
    obtain ⟨hmA, hmB⟩ := hnum
    obtain ⟨hD0, hV0⟩ := HDV.out wc HG.out
    have hv7 : wc.rangeAt v 0 (tyR (m1, 0)) := fun j u hu => by
      rw [Nat.zero_add]
      refine hV0.cell j ?_
      rw [List.getElem?_toArray]
      unfold vlC
      rw [if_pos rfl, List.getElem?_append_left (List.getElem?_eq_some_iff.1 hu).1]
      exact hu
    have hv14 : wc.rangeAt v 7 (tyR (m2, 0)) := fun j u hu => by
      refine hV0.cell (7 + j) ?_
      rw [List.getElem?_toArray]
      unfold vlC
      rw [if_pos rfl, List.getElem?_append_right (by rw [tyR_len]; omega), tyR_len, Nat.add_sub_cancel_left]
      exact hu
    have hal : Below wc.heap.size wc ((wc.alloc (.cells (tyR (m1, 0)).toArray 39)).alloc (.cells (tyR (m1, 0)).toArray 39)) := ((Below.refl _ _).alloc (Nat.le_refl _) _).alloc (by simp) _
    have hB1 : (wc.alloc (.cells (tyR (m1, 0)).toArray 39)).rangeAt wc.heap.size 0 (tyR (m1, 0)) := rg_new wc (tyR (m1, 0)).toArray 39
    have hB2 : ((wc.alloc (.cells (tyR (m1, 0)).toArray 39)).alloc (.cells (tyR (m1, 0)).toArray 39)).rangeAt (wc.heap.size + 1) 0 (tyR (m1, 0)) := by
      have := rg_new (wc.alloc (.cells (tyR (m1, 0)).toArray 39)) (tyR (m1, 0)).toArray 39
      rw [World.size_alloc] at this
      exact this
    have hTh2 : ((wc.alloc (.cells (tyR (m1, 0)).toArray 39)).alloc (.cells (tyR (m1, 0)).toArray 39)).there (wc.heap.size + 1) 0 7 := by
      have := th_new (wc.alloc (.cells (tyR (m1, 0)).toArray 39)) (tyR (m1, 0)).toArray 39 (n := 7) rfl
      rw [World.size_alloc] at this
      exact this
    have hB1b : ((wc.alloc (.cells (tyR (m1, 0)).toArray 39)).alloc (.cells (tyR (m1, 0)).toArray 39)).rangeAt wc.heap.size 0 (tyR (m1, 0)) := rg_keep ((Below.refl _ _).alloc (Nat.le_refl _) _) hB1
    have hsz5 : ((wc.alloc (.cells (tyR (m1, 0)).toArray 39)).alloc (.cells (tyR (m1, 0)).toArray 39)).heap.size = wc.heap.size + 1 + 1 := by simp
    have HT5 := Lib.hid (HT.out.keep hal)
    have HG5 := Lib.hid (gb_then HG.out hal)
    have HV5 : Hid (((wc.alloc (.cells (tyR (m1, 0)).toArray 39)).alloc (.cells (tyR (m1, 0)).toArray 39)).rangeAt v 7 (tyR (m2, 0))) := Lib.hid (rg_keep hal hv14)
    have HB5 := Lib.hid (And.intro hB1b (And.intro hB2 hTh2))
    have htlf : w.heap.size ≤ wc.heap.size := HG.out.size
    obtain ⟨t0, t1, t2, t3, t4, t5, t6⟩ := cells7 hv7
    simp only [Nat.zero_add] at t0 t1 t2 t3 t4 t5 t6
    (try dsimp only at t1 t5)
    unfold tyR at HT5 HG5 HB5 hsz5
    unfold tyR at HV5
    clear hv14
    clear hv7 hal hB1 hB2 hTh2 hB1b hV0 HT HG
    have d1 : wc.cell? ⟨d, 1, none⟩ = some (.slice (some ⟨v, 0, none⟩) 2 2) := hD0.cell 1 rfl
    clear hD0
    go_upto_if 73 with fail
    have hw5 : ∃ w5, w5 = (wc.alloc (.cells #[.pointer none, .string (tT m1), .int .i32 0, .int .u32 0, .int .u16 0, .int .u8 (tK m1), .int .u8 0] 39)).alloc (.cells #[.pointer none, .string (tT m1), .int .i32 0, .int .u32 0, .int .u16 0, .int .u8 (tK m1), .int .u8 0] 39) := ⟨_, rfl⟩
    clear t0 t1 t2 t3 t4 t5 t6 d1 hw5
    generalize World.alloc (World.alloc wc _) _ = w5 at *
    generalize hb2 : wc.heap.size + 1 = b2 at *
    generalize hb1 : wc.heap.size = b1 at *
    have HBN : Hid (b1 ≠ b2 ∧ w.heap.size ≤ b1 ∧ w.heap.size ≤ b2 ∧ b2 + 1 = w5.heap.size ∧ b1 < b2) := Lib.hid ⟨by omega, by omega, by omega, by omega, by omega⟩
    have HM := Lib.hid (And.intro hmA hmB)
    clear hb2 hb1 hsz5 htlf hmA hmB
    go_cut [] (fun wc => Hid (MB m1 m2 b1 b2 wc ∧ TG (cnQ Q) di t wc ∧ w.grownBy wc (some t) ∧ w5.heap.size ≤ wc.heap.size))
    case first =>
      -- <part
      have hr := HV5.out
      obtain ⟨c, hc⟩ : ∃ c, tyR (m2, 0) = c := ⟨_, rfl⟩
      have hr' : w5.rangeAt v 7 c := by rw [← hc]; exact hr
      have l0 : c.length = 7 := by rw [← hc]; rfl
      have l1 : c.toArray.all (·.oneCell') = true := by rw [← hc]; simp [tyR, Value.oneCell']
      have hsz : (Tryd.prog.info? 39).map (·.size) = some c.length := by rw [l0]; exact szTok
      have hsz2 : (Tryd.prog.info? 39).map (·.size) = some c.toArray.size := by rw [List.size_toArray]; exact hsz
      obtain ⟨du, hdu, hu2⟩ := tyTok
      have HRV := Lib.hid hr'
      have HU := Lib.hid hdu
      have HSZ := Lib.hid hsz
      have HSZ2 := Lib.hid hsz2
      have HL := Lib.hid (And.intro l0 l1)
      have HTH : Hid (w5.there b2 0 c.toArray.size) := Lib.hid (by rw [List.size_toArray, l0]; exact HB5.out.2.2)
      have HC := Lib.hid hc
      clear hr hr' hc hdu hsz hsz2 l0 l1
      go_wp2_with (first | (refine wpList_load_mid rfl 39 _ rfl v 7 rfl c du HRV.out HU.out hu2 HSZ.out ?_) | (refine wpList_store_mid rfl 39 _ _ rfl b2 0 c.toArray rfl rfl HTH.out HSZ2.out HL.out.2 ?_))
      go_meet
      show Hid (MB m1 m2 b1 b2 (w5.setCells b2 0 c) ∧ _)
      have hth : w5.there b2 0 c.length := by have := HTH.out; rwa [List.size_toArray] at this
      refine Lib.hid ⟨⟨World.rangeAt_setCells_apart HB5.out.1 _ _ _ (.inl HBN.out.1), by rw [HC.out]; exact World.rangeAt_setCells_same _ _ _ _ hth⟩, ?_, ?_, by rw [size_setCells]; exact Nat.le_refl _⟩
      · have ht2 : t ≠ b2 := by have := HBN.out; have := HNE.out.2.1; omega
        exact ⟨fun i hi => World.rangeAt_setCells_apart (HT5.out.1 i hi) _ _ _ (.inl ht2), by
          have h4 : w5.rangeAt t 72 [.bool di] := fun j v hv => by
            rcases j with _ | j
            · simp only [List.getElem?_cons_zero, Option.some.injEq] at hv; subst hv; exact HT5.out.2.1
            · simp at hv
          exact World.rangeAt_setCells_apart h4 b2 0 c (.inl ht2) 0 _ rfl, World.there_setCells HT5.out.2.2 _ _ _⟩
      · exact gb_then2 HG5.out HBN.out.2.2.1 _ _
      -- part>
    case rest =>
    clear HB5 HT5 HG5
    have HY := hcut
    clear hcut
    have hub := heap_alloc_new wc (.cells #[.string ⟨#[]⟩, .int .u8 0] 64)
    have hab : Below wc.heap.size wc (wc.alloc (.cells #[.string ⟨#[]⟩, .int .u8 0] 64)) := (Below.refl _ _).alloc (Nat.le_refl _) _
    go_upto_region 10 with fail
    have hX : MX m1 m2 0 b1 b2 wc.heap.size t Q di w (wc.alloc (.cells #[.string ⟨#[]⟩, .int .u8 0] 64)) :=
      ⟨HY.out.1.keep hab, ⟨Bk.cell hub 0 rfl, Bk.cell hub 1 rfl, Bk.frozen hub 1⟩, HY.out.2.1.keep hab, gb_then HY.out.2.2.1 hab⟩
    clear hub hab
    generalize World.alloc wc _ = w7 at *
    have hbn : (wc.heap.size ≠ b1 ∧ wc.heap.size ≠ b2 ∧ wc.heap.size ≠ t ∧ w.heap.size ≤ wc.heap.size) := by
      have h1 := HBN.out
      have h2 := HY.out.2.2.2
      have h3 := HNE.out.2.1
      omega
    generalize wc.heap.size = b3 at *
    have HX := Lib.hid hX
    have HBN3 := Lib.hid hbn
    clear hX hbn HY
    obtain ⟨t0, t1, t2, t3, t4, t5, t6⟩ := cells7 HX.out.1.1
    simp only [Nat.zero_add] at t0 t1 t2 t3 t4 t5 t6
    (try dsimp only at t1 t5)
    go_upto_region 11 with (first | (go_at_call 19; refine (iu_any b3 m1 _ w7 ⟨hm1.1, HM.out.1⟩ HX.out.2.1.2.1 HX.out.2.1.2.2).mono ?_; rintro e w8 ⟨rfl, hiu⟩))
    have HX8 := Lib.hid (HX.out.iu HBN3.out.1 HBN3.out.2.1 HBN3.out.2.2.1 HBN3.out.2.2.2 hiu)
    clear t0 t1 t2 t3 t4 t5 t6 hiu HX
    obtain ⟨t0, t1, t2, t3, t4, t5, t6⟩ := cells7 HX8.out.1.2
    simp only [Nat.zero_add] at t0 t1 t2 t3 t4 t5 t6
    (try dsimp only at t1 t5)
    go_upto_region 12 with (first | (go_at_call 19; refine (iu_any b3 m2 _ w8 ⟨hm2.1, HM.out.2⟩ HX8.out.2.1.2.1 HX8.out.2.1.2.2).mono ?_; rintro e w9 ⟨rfl, hiu⟩))
    have hX9 := HX8.out.iu HBN3.out.1 HBN3.out.2.1 HBN3.out.2.2.1 HBN3.out.2.2.2 hiu
    rw [sQ_two] at hX9
    obtain ⟨st, hst⟩ : ∃ s, sQ m1 m2 = s := ⟨_, rfl⟩
    rw [hst] at hX9
    have hcs : st = 0 ∨ st = 2 := by rw [← hst]; exact sQ_cases _ _
    have HST := Lib.hid hst
    have HX := Lib.hid hX9
    clear t0 t1 t2 t3 t4 t5 t6 hiu HX8 hst hX9
    have u1 := HX.out.2.1.2.1
    have t5 := (cells7 HX.out.1.1).2.2.2.2.2.1
    rw [Nat.zero_add] at t5
    (try dsimp only at t5)
    go_cut [87] (fun x wc => x = .bool false ∧ Hid (MX m1 m2 st b1 b2 b3 t Q di w wc))
    case first =>
      -- <part
      rcases hcs with hx | hx
      · have x0 : (st == 0) = true := by rw [hx]; rfl
        clear hx
        go_wp2_with (first | (go_at_call 20; refine (tl_any b1 m1 w9 hm1 t5).mono ?_; rintro e wk ⟨rfl, hwk⟩; rw [hwk]; clear hwk))
        go_meet
        exact ⟨rfl, HX⟩
      · have x0 : (st == 0) = false := by rw [hx]; rfl
        clear hx
        go_wp2_with fail
        go_meet
        exact ⟨rfl, HX⟩
      -- part>
    case rest =>
    clear HX u1 t5
    obtain ⟨rfl, HX⟩ := hcut
    go_upto_if 93 with fail
    go_cut [] (fun wc => Hid (MZ m1 m2 st b1 b2 b3 t d v Q di (deC v (nN true m1 m2 2) 2 a2 a3 di) (vlC true m1 m2) w wc))
    case first =>
      -- <part
      have hMZ : nN true m1 m2 2 = 2 → ∀ W, MX m1 m2 st b1 b2 b3 t Q di w W → MZ m1 m2 st b1 b2 b3 t d v Q di (deC v (nN true m1 m2 2) 2 a2 a3 di) (vlC true m1 m2) w W := fun hn W h => by
        obtain ⟨h1, ⟨h2, h3, h4⟩, h5, h6⟩ := h
        obtain ⟨hd, hv⟩ := HDV.out W h6
        exact ⟨h1, ⟨h2, h3⟩, h5, KX.of_grown h6 (.inl rfl), by rw [hn]; exact hd, hv⟩
      have HMZ := Lib.hid hMZ
      clear hMZ
      have u1 := HX.out.2.1.2.1
      have t5 := (cells7 HX.out.1.2).2.2.2.2.2.1
      rw [Nat.zero_add] at t5
      (try dsimp only at t5)
      have HSS := Lib.hid hcs
      go_upto_region 15 with fail
      go_cut [99] (fun x wc => x = .bool false ∧ Hid (MX m1 m2 st b1 b2 b3 t Q di w wc))
      case first =>
        rcases hcs with hx | hx
        · have x0 : (st == 0) = true := by rw [hx]; rfl
          clear hx
          go_wp2_with (first | (go_at_call 20; refine (tl_any b2 m2 wc hm2 t5).mono ?_; rintro e wk ⟨rfl, hwk⟩; rw [hwk]; clear hwk))
          go_meet
          exact ⟨rfl, HX⟩
        · have x0 : (st == 0) = false := by rw [hx]; rfl
          clear hx
          go_wp2_with fail
          go_meet
          exact ⟨rfl, HX⟩
      case rest =>
      clear HX u1 t5 hcs
      obtain ⟨rfl, HX⟩ := hcut
      have heq := fun W => eqt_any (tT m1) (tT m2) 0 0 0 0 0 0 (tK m1) (tK m2) 0 0 W
      rw [eq_code hm1 hm2] at heq
      obtain ⟨t0, t1, t2, t3, t4, t5, t6⟩ := cells7 HX.out.1.1
      obtain ⟨s0, s1, s2, s3, s4, s5, s6⟩ := cells7 HX.out.1.2
      simp only [Nat.zero_add] at t0 t1 t2 t3 t4 t5 t6 s0 s1 s2 s3 s4 s5 s6
      (try dsimp only at t1 t5 s1 s5)
      by_cases hmm : m1 = m2
      · rw [decide_eq_true hmm] at heq
        have HEQ := Lib.hid heq
        have HMM : Hid (nN true m1 m2 2 = 1) := Lib.hid (by unfold nN; rw [if_pos ⟨HM.out.1, HM.out.2, rfl, hmm⟩])
        clear heq hmm
        go_upto_region 18 with (first | (go_at_call 21; refine (HEQ.out _).mono ?_; rintro e wq ⟨rfl, hbq⟩))
        have HXQ := Lib.hid (HX.out.keep hbq)
        clear t0 t1 t2 t3 t4 t5 t6 s0 s1 s2 s3 s4 s5 s6 HX hbq
        obtain ⟨hD, hV⟩ := HDV.out wq HXQ.out.2.2.2
        have v6 : wq.cell? ⟨v, 6, none⟩ = some (.int .u8 0) := hV.cell 6 rfl
        have f6 := hV.frozen 6
        have d1 : wq.cell? ⟨d, 1, none⟩ = some (.slice (some ⟨v, 0, none⟩) 2 2) := hD.cell 1 rfl
        have g1 := hD.frozen 1
        have HDQ := Lib.hid (And.intro hD hV)
        clear hD hV
        go_wp2_with fail
        go_meet
        rw [HMM.out]
        obtain ⟨hD, hV⟩ := HDQ.out
        obtain ⟨hne, hl⟩ := HNE.out
        obtain ⟨h1, ⟨h2, h3, h4⟩, h5, h6⟩ := HXQ.out
        have hb1v : v ≠ b1 ∧ v ≠ b2 ∧ v ≠ b3 ∧ d ≠ b1 ∧ d ≠ b2 ∧ d ≠ b3 := by
          have := HBN.out
          have := HBN3.out
          omega
        refine Lib.hid ⟨⟨rg_other (rg_other h1.1 hb1v.1) hb1v.2.2.2.1, rg_other (rg_other h1.2 hb1v.2.1) hb1v.2.2.2.2.1⟩, ⟨cell_other (cell_other h2 hb1v.2.2.1) hb1v.2.2.2.2.2, cell_other (cell_other h3 hb1v.2.2.1) hb1v.2.2.2.2.2⟩, (h5.other (fun e => hne.2.2.1 e.symm) _).other (fun e => hne.2.1 e.symm) _, ((KX.of_grown h6 (.inl rfl)).set_ (.inr (.inr rfl)) _).set_ (.inr (.inl rfl)) _, ?_, ?_⟩
        · have := (hD.far (p := ⟨v, 6, none⟩) hne.2.2.2.2.2 (.int .u8 0)).set_ 1 (.slice (some ⟨v, 0, none⟩) 1 2)
          exact this
        · have := (hV.set_ 6 (.int .u8 0)).far (p := ⟨d, 1, none⟩) (fun e => hne.2.2.2.2.2 e.symm) (.slice (some ⟨v, 0, none⟩) 1 2)
          exact this
      · rw [decide_eq_false hmm] at heq
        have HEQ := Lib.hid heq
        have HMM : Hid (nN true m1 m2 2 = 2) := Lib.hid (by unfold nN; rw [if_neg (fun h => hmm h.2.2.2)])
        clear heq hmm
        go_wp2_with (first | (go_at_call 21; refine (HEQ.out _).mono ?_; rintro e wq ⟨rfl, hbq⟩))
        go_meet
        exact Lib.hid (HMZ.out HMM.out _ (HX.out.keep hbq))
      -- part>
    case rest =>
    clear HX
    have HX := hcut
    clear hcut
    have hus := uc_any t side (.slice (some ⟨r, 0, none⟩) n cr) di (cnQ Q) (tT m1) (tK m1) (tT m2) (tK m2) st side wc HX.out.2.2.1 hs (by rw [cnQ_none HI.out.2.2.1]; rfl)
    unfold cgG at hus
    have HUS := Lib.hid hus
    clear hus
    obtain ⟨t0, t1, t2, t3, t4, t5, t6⟩ := cells7 HX.out.1.1
    obtain ⟨s0, s1, s2, s3, s4, s5, s6⟩ := cells7 HX.out.1.2
    simp only [Nat.zero_add] at t0 t1 t2 t3 t4 t5 t6 s0 s1 s2 s3 s4 s5 s6
    (try dsimp only at t1 t5 s1 s5)
    have u0 := HX.out.2.1.1
    have u1 := HX.out.2.1.2
    have hn := HI.out.2.2.2.2.1
    have hm1' : (n : Int) - 1 = (side : Int) := by rw [hn]; omega
    have hwr : IntKind.u32.wrap (side : Int) = (side : Int) := by
      have : IntKind.u32.wrap (side : Int) = (side : Int) % 4294967296 := by simp [IntKind.wrap, IntKind.bits, IntKind.signed]
      rw [this]; omega
    have HNS := Lib.hid hn
    clear hn hcs
    go_upto_region 21 with (first | (refine wpl_build5 rfl 66 _ _ _ _ _ rfl (.agg #[.pointer none, .string (tT m1), .int .i32 0, .int .u32 0, .int .u16 0, .int .u8 (tK m1), .int .u8 0]) (.agg #[.pointer none, .string (tT m2), .int .i32 0, .int .u32 0, .int .u16 0, .int .u8 (tK m2), .int .u8 0]) (.agg #[.string ⟨#[]⟩, .int .u8 st]) (.int .u32 (side : Int)) (.bool true) _ rfl rfl rfl rfl rfl (bld45 (tT m1) (tT m2) ⟨#[]⟩ (tK m1) (tK m2) st (side : Int) true _) ?_) | (go_at_call 22; refine HUS.out.mono ?_; rintro e w9 ⟨rfl, hu9⟩))
    clear t0 t1 t2 t3 t4 t5 t6 s0 s1 s2 s3 s4 s5 s6 u0 u1 HUS hm1' hwr
    obtain ⟨hne, hl⟩ := HNE.out
    have hdr : Below wc.heap.size wc w9 ∨ True := .inr trivial
    have hTG9 : TG (cnQ (nQ Q side m1 m2)) di t w9 := by
      obtain ⟨wA, hbA, hw9⟩ := hu9
      unfold nQ
      rw [if_pos ⟨HM.out.1, HM.out.2⟩, ← upQ_cn, hw9]
      have h1 : TG (cnQ Q) di t (wA.drewN 1) := (HX.out.2.2.1.keep hbA).keep ⟨rfl, rfl, rfl, Nat.le_refl _, fun _ _ => rfl⟩
      have h2 := h1.put hs (cnC m1 m2 side)
      have e : (⟨tT m1, tK m1, tT m2, tK m2, st, side, true⟩ : CN) = cnC m1 m2 side := by unfold cnC; rw [HST.out]
      rw [e]
      exact h2
    have hDr : ∀ wA : World, Below wA.heap.size wA (wA.drewN 1) := fun wA => ⟨rfl, rfl, rfl, Nat.le_refl _, fun _ _ => rfl⟩
    have hKX9 : KX (fun i => i = t ∨ i = d ∨ i = v) w w9 ∧ Bk w9 d 45 (deC v (nN true m1 m2 2) 2 a2 a3 di).toArray ∧ Bk w9 v 39 (vlC true m1 m2).toArray := by
      obtain ⟨wA, hbA, hw9⟩ := hu9
      obtain ⟨h1, h2, h3, h4, h5, h6⟩ := HX.out
      rw [hw9]
      have hg : wc.grownBy ((wA.drewN 1).setCells t (side * 18) (cgR ⟨tT m1, tK m1, tT m2, tK m2, st, side, true⟩)) (some t) := gb_sets (gb_then (gb_then (gb_refl wc t) hbA) (hDr wA)) _ _
      exact ⟨h4.trans (KX.of_grown hg (.inl rfl)), h5.grown hg (fun e => hne.2.1 (by injection e with e; exact e.symm)), h6.grown hg (fun e => hne.2.2.1 (by injection e with e; exact e.symm))⟩
    clear hu9 hdr HX
    obtain ⟨hK9, hD9, hV9⟩ := hKX9
    have hok : okQ (nQ Q side m1 m2) := fun i hi a b e => by
      unfold nQ at e
      rw [if_pos ⟨HM.out.1, HM.out.2⟩] at e
      unfold upQ at e
      by_cases h : i = side
      · rw [if_pos h] at e
        injection e with e
        injection e with e1 e2
        subst e1
        subst e2
        exact ⟨⟨hm1.1, HM.out.1⟩, hm2.1, HM.out.2⟩
      · rw [if_neg h] at e
        exact HI.out.2.1 i hi a b e
    have hcz := cz_any t r n cr (nQ Q side m1 m2) di mf a2 a3 R lc w9 hTG9 hok hne.1 (HRR.out w9 hK9).1 (HRR.out w9 hK9).2 (fun h => by
      have h3 := HI.out.2.2.2.2.2.2.2 h
      exact ⟨by rw [HNS.out, h3], HI.out.2.2.2.2.2.2.1 h3⟩) HI.out.2.2.2.2.2.1
    have HCZ := Lib.hid hcz
    have y2 : w9.cell? ⟨d, 2, none⟩ = some (.int .i32 a2) := hD9.cell 2 rfl
    have y3 : w9.cell? ⟨d, 3, none⟩ = some (.int .i32 a3) := hD9.cell 3 rfl
    have H9 := Lib.hid (And.intro hTG9 (And.intro hK9 (And.intro hD9 hV9)))
    have HNE2 := Lib.hid hne
    clear hcz hTG9 hK9 hD9 hV9 hok hDr hne hl
    go_wp2_with (first | (go_at_call 23; refine HCZ.out.mono ?_; rintro e wq ⟨rfl, hq1, hq2⟩))
    (try simp only [Exit.inBlock, Exit.then])
    refine bodyPost_end (results_none rfl _ _ _) rfl ?_
    refine ⟨rfl, ?_⟩
    obtain ⟨hT9, hK9, hD9, hV9⟩ := H9.out
    obtain ⟨ntr, ntd, ntv, nrd, nrv, ndv⟩ := HNE2.out
    unfold McP
    have hK9' := hK9.mono (S' := fun i => i = t ∨ i = d ∨ i = v ∨ (mrg (nQ Q side m1 m2) ∧ i = r)) (fun i h => by rcases h with h | h | h; exact .inl h; exact .inr (.inl h); exact .inr (.inr (.inl h)))
    by_cases hm : mrg (nQ Q side m1 m2)
    · have hc := hq1 hm
      obtain ⟨_, _, _, _, _, _, _, _, _, _, hg⟩ := id hc
      exact ⟨hK9'.trans (KX.of_grown hg (.inr (.inr (.inr ⟨hm, rfl⟩)))), fun h => absurd hm h, hD9.grown hg (fun e => nrd (by injection e with e; exact e.symm)), hV9.grown hg (fun e => nrv (by injection e with e; exact e.symm)), fun _ => ⟨w9, hc, hK9.2.2.2.1⟩⟩
    · have hb := hq2 hm
      exact ⟨hK9'.trans (KX.of_below hb), fun _ => hT9.keep hb, hD9.keep hb, hV9.keep hb, fun h => absurd h hm⟩
theorem mc_any (m1 m2 : Int) (p : Bool) (N t r n cr d v side : Nat) (imp di mf : Bool) (a2 a3 : Int) (Q : QQ) (R : Nat → RU) (lc : Nat → Int) (w : World)
    (hm1 : 0 ≤ m1 ∧ m1 < 8) (hm2 : 0 ≤ m2 ∧ m2 < 8) (hN : N = if p then 2 else 1) (hpm : p = false → m2 = m1)
    (hT : TG (cnQ Q) imp t w) (hI : imp = di ∨ Q = fun _ => none) (hQ : okQ Q) (hside : Q side = none) (hs : side < 4) (hn : n = side + 1)
    (hR : RR w r n R) (hth : w.there r 0 (n * 2)) (hlc : ∀ i, i < n → (R i).2 = lc i) (ha3 : side = 3 → a3 = 3) (hmg : mrg (nQ Q side m1 m2) → side = 3)
    (hd : Bk w d 45 (deC v N N a2 a3 di).toArray) (hv : Bk w v 39 (vlC p m1 m2).toArray)
    (htr : t ≠ r) (htd : t ≠ d) (htv : t ≠ v) (hrd : r ≠ d) (hrv : r ≠ v) (hdv : d ≠ v) :
    Calls Tryd.prog 14 #[.pointer (some ⟨t, 0, none⟩), .slice (some ⟨r, 0, none⟩) n cr, .pointer (some ⟨d, 0, none⟩), .bool mf, .int .i64 (side : Int)] w fun e w' => e = .returned (.tuple #[]) ∧ McP m1 m2 p N N t r n d v side di mf a2 a3 Q R lc w w' := by
  cases p with
  | false =>
    obtain rfl : N = 1 := hN
    exact mc_0 m1 m2 t r n cr d v side imp di mf a2 a3 Q R lc w hm1 hm2 rfl hpm hT hI hQ hside hs hn hR hth hlc ha3 hmg hd hv htr htd htv hrd hrv hdv
  | true =>
    obtain rfl : N = 2 := hN
    exact mc_1 m1 m2 t r n cr d v side imp di mf a2 a3 Q R lc w hm1 hm2 rfl hpm hT hI hQ hside hs hn hR hth hlc ha3 hmg hd hv htr htd htv hrd hrv hdv
end Go.Proofs.YtmaljklijpoojaaDoor.Co
