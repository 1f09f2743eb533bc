/-
  FnMangleCornerFourLonghandsMerge: the walk.
-/
import Derived.Test.YtmaljklijpoojaaDoorDc
namespace Go.Proofs.YtmaljklijpoojaaDoor.Co
open Go.ChangeShapes Go.WideShapes Go.ChangeAt Go.RowKit Rg Quad
set_option linter.unusedVariables false
set_option linter.unusedSimpArgs false
theorem mk4 (W : World) : (Instr.makeSlice 27 (.int .i64 4) (.int .i64 4)).run Tryd.prog W = .ok (.slice (some ⟨W.heap.size, 0, none⟩) 4 4) (W.alloc (.cells #[.nilIface, .int .i32 0, .nilIface, .int .i32 0, .nilIface, .int .i32 0, .nilIface, .int .i32 0] 49)) := by kernel_rfl
theorem rr_new (W : World) (t : TypeId) : RR (W.alloc (.cells #[.nilIface, .int .i32 0, .nilIface, .int .i32 0, .nilIface, .int .i32 0, .nilIface, .int .i32 0] t)) W.heap.size 4 (fun _ => (none, 0)) := fun j hj i v hv => by
  have h : Bk (W.alloc (.cells #[.nilIface, .int .i32 0, .nilIface, .int .i32 0, .nilIface, .int .i32 0, .nilIface, .int .i32 0] t)) W.heap.size t _ := heap_alloc_new W _
  have c : j = 0 ∨ j = 1 ∨ j = 2 ∨ j = 3 := by omega
  rcases i with _ | _ | i
  · rcases c with rfl | rfl | rfl | rfl <;> exact Bk.cell h _ hv
  · rcases c with rfl | rfl | rfl | rfl <;> exact Bk.cell h _ hv
  · simp [ruR] at hv
theorem w32 {k : Nat} (h : k < 4) : IntKind.i32.wrap (k : Int) = (k : Int) := by
  have c : k = 0 ∨ k = 1 ∨ k = 2 ∨ k = 3 := by omega
  rcases c with rfl | rfl | rfl | rfl <;> rfl
set_option maxRecDepth 100000 in
set_option maxHeartbeats 8000000 in
theorem law55 (f s : Nat → Int) (pr : Nat → Bool) (lc : Nat → Int) (imp mf : Bool) (w : World) (hf : ∀ j, j < 4 → 0 ≤ f j ∧ f j < 256) (hs : ∀ j, j < 4 → 0 ≤ s j ∧ s j < 256) :
    Calls Tryd.prog 3 #[.agg #[.int .u8 (f 0), .int .u8 (f 1), .int .u8 (f 2), .int .u8 (f 3)], .agg #[.int .u8 (s 0), .int .u8 (s 1), .int .u8 (s 2), .int .u8 (s 3)], .agg #[.bool (pr 0), .bool (pr 1), .bool (pr 2), .bool (pr 3)], .agg #[.int .i32 (lc 0), .int .i32 (lc 1), .int .i32 (lc 2), .int .i32 (lc 3)], .bool imp, .bool mf] w fun e w' => e = .returned (.bool true) ∧ Below w.heap.size w w' := by
  have HF := Lib.hid (And.intro hf hs)
  have hmk := mk4
  obtain ⟨hX, hb⟩ := BX4.start 0 0 0 0 f s pr lc imp w 22 23 24
  clear hf hs
  go_enter Tryd.func3, Tryd.ntmps3
  go_upto_region 1 with fail
  have hsz : ((((w.alloc (.cells #[.int .u8 (f 0), .int .u8 (f 1), .int .u8 (f 2), .int .u8 (f 3)] 22)).alloc (.cells #[.int .u8 (s 0), .int .u8 (s 1), .int .u8 (s 2), .int .u8 (s 3)] 22)).alloc (.cells #[.bool (pr 0), .bool (pr 1), .bool (pr 2), .bool (pr 3)] 23)).alloc (.cells #[.int .i32 (lc 0), .int .i32 (lc 1), .int .i32 (lc 2), .int .i32 (lc 3)] 24)).heap.size = w.heap.size + 1 + 1 + 1 + 1 := by simp
  generalize World.alloc (World.alloc (World.alloc (World.alloc w _) _) _) _ = wA at *
  generalize hb9 : w.heap.size + 1 + 1 + 1 = b9 at *
  generalize hb8 : w.heap.size + 1 + 1 = b8 at *
  generalize hb7 : w.heap.size + 1 = b7 at *
  generalize hb6 : w.heap.size = b6 at *
  have HX := Lib.hid hX
  have HB := Lib.hid hb
  have HN : Hid (b6 < wA.heap.size ∧ b7 < wA.heap.size ∧ b8 < wA.heap.size ∧ b9 < wA.heap.size ∧ w.heap.size ≤ wA.heap.size ∧ w.heap.size = b6) := Lib.hid (by omega)
  clear hX hb hb9 hb8 hb7 hb6 hsz
  have hD : (wA.alloc (.cells #[.pointer none, .pointer none, .pointer none, .pointer none] 26)).there wA.heap.size 0 4 := th_new wA _ _ rfl
  have hbD : Below wA.heap.size wA (wA.alloc (.cells #[.pointer none, .pointer none, .pointer none, .pointer none] 26)) := (Below.refl _ _).alloc (Nat.le_refl _) _
  have hsD : (wA.alloc (.cells #[.pointer none, .pointer none, .pointer none, .pointer none] 26)).heap.size = wA.heap.size + 1 := by simp
  go_upto_region 2 with fail
  generalize World.alloc wA _ = wD at *
  have HSD := Lib.hid hsD
  clear hsD
  have hR := rr_new wD 49
  have hRt : (wD.alloc (.cells #[.nilIface, .int .i32 0, .nilIface, .int .i32 0, .nilIface, .int .i32 0, .nilIface, .int .i32 0] 49)).there wD.heap.size 0 8 := th_new wD _ _ rfl
  have hbR : Below wD.heap.size wD (wD.alloc (.cells #[.nilIface, .int .i32 0, .nilIface, .int .i32 0, .nilIface, .int .i32 0, .nilIface, .int .i32 0] 49)) := (Below.refl _ _).alloc (Nat.le_refl _) _
  have hsR : (wD.alloc (.cells #[.nilIface, .int .i32 0, .nilIface, .int .i32 0, .nilIface, .int .i32 0, .nilIface, .int .i32 0] 49)).heap.size = wD.heap.size + 1 := by simp
  go_upto_region 3 with fail
  generalize World.alloc wD _ = wR at *
  generalize hgD : wA.heap.size = gD at *
  generalize hgr : wD.heap.size = gr at *
  clear hmk
  go_upto_block 0 with (first | (go_at_call 4; refine (ntr_any wR).mono ?_; rintro e wT ⟨t, rfl, hT, htl, hbT⟩))
  have hsD := HSD.out
  have hTl : t < wT.heap.size := World.block_lt_of_cell? wT _ hT.2.1
  have HS : Hid (∃ c : LB, c = ⟨b6, b7, b8, b9, gD, gr, t, wT.heap.size, f, s, lc, pr, imp, w⟩ ∧ c.ok ∧ LE c mf 0 (fun _ => 0) (fun _ => 0) wT) := by
    refine Lib.hid ⟨_, rfl, ?_, ?_⟩
    · have h := HN.out
      have h2 := hbD.size
      have h3 := hbR.size
      have h4 := hbT.size
      unfold LB.ok
      dsimp only
      omega
    · have hbDR : Below wA.heap.size wA wR := by rw [hgD]; exact hbD.trans (by rw [← hgr] at hbR; exact hbR.mono (by omega))
      have hbRT : Below wR.heap.size wR wT := hbT
      have hbRT2 : Below wD.heap.size wD wT := by rw [hgr]; exact hbR.trans (hbT.mono (by omega))
      have hX1 := (HX.out.keep hbDR).keep hbRT
      have hB0 : Below w.heap.size w wA := by have := HB.out; rwa [← HN.out.2.2.2.2.2] at this
      have hB1 : Below w.heap.size w wT := (hB0.trans (hbDR.mono hB0.size)).trans (hbRT.mono (by have := HN.out; have := hbDR.size; omega))
      refine LE.start mf _ _ ?_ ?_ (hR.keep hbRT) (th_keep hbRT hRt) hT hB1 (Nat.le_refl _)
      · exact ⟨hX1.1, hX1.2.1, hX1.2.2.1, hX1.2.2.2⟩
      · exact th_keep hbRT2 hD
  obtain ⟨c, hc, hok, hE⟩ := HS.out
  have HC := Lib.hid hc
  have HOK := Lib.hid hok
  have HE := Lib.hid hE
  clear hc hok hE HS HSD hT htl hbT hR hRt hbR hsR hbD hsD hD hgD hgr HX HB HN hTl
  go_cut [] (fun wc => ∃ D V, Hid (LE c mf 4 D V wc))
  case first =>
    -- <part
    go_wp2_with fail
    go_loopw [16] (fun iv wr => ∃ (k : Nat) (D V : Nat → Nat), k ≤ 4 ∧ iv = .int .i64 k ∧ Hid (LE c mf k D V wr)) (fun iv _ => 4 - (intOf iv).toNat)
    case atStart => exact ⟨0, _, _, by omega, rfl, HE⟩
    case round =>
      clear HE
      obtain ⟨k, D, V, hk, rfl, HE⟩ := hrel
      by_cases hlt : k < 4
      case neg =>
        obtain rfl : k = 4 := by omega
        go_wp2_with fail
        go_meet
        exact ⟨D, V, HE⟩
      have q0 : (0 : Int) ≤ k := by omega
      have q1 : (k : Int) < 4 := by omega
      have HU : Hid (LU c k D V wr) := Lib.hid (HE.out.1 (fun h => by have := qk_mrg h; omega))
      clear HE
      have hx6 : wr.cell? ⟨b6, k, none⟩ = some (.int .u8 (f k)) := by have := HU.out.1.1.1 k hlt; rw [HC.out] at this; exact this
      have hx7 : wr.cell? ⟨b7, k, none⟩ = some (.int .u8 (s k)) := by have := HU.out.1.1.2.1 k hlt; rw [HC.out] at this; exact this
      have hx8 : wr.cell? ⟨b8, k, none⟩ = some (.bool (pr k)) := by have := HU.out.1.1.2.2.1 k hlt; rw [HC.out] at this; exact this
      obtain ⟨hf0, hf1⟩ := HF.out.1 k hlt
      obtain ⟨hs0, hs1⟩ := HF.out.2 k hlt
      have HV : Hid (vlC (c.pr k) (c.A k) (c.B k) = vlC (pr k) (f k % 8) (s k % 8) ∧ nn (c.pr k) = nn (pr k)) := Lib.hid (by
        rw [HC.out]
        refine ⟨?_, rfl⟩
        unfold LB.A LB.B vlC
        dsimp only
        by_cases hp : pr k = true
        · rw [if_pos hp, if_pos hp, if_pos hp]
        · rw [if_neg hp, if_neg hp])
      generalize f k = fk at *
      generalize s k = sk at *
      generalize hpk : pr k = pk at *
      clear hpk
      have hz1 := fun W => zt_any fk W hf0 (by omega)
      have hz2 := fun W => zt_any sk W hs0 (by omega)
      unfold tyV at hz1 hz2
      dsimp only at hz1 hz2
      obtain ⟨ma, hma⟩ : ∃ m, fk % 8 = m := ⟨_, rfl⟩
      obtain ⟨mb, hmb⟩ : ∃ m, sk % 8 = m := ⟨_, rfl⟩
      rw [hma] at hz1 HV
      rw [hmb] at hz2 HV
      clear hma hmb
      have HZ1 := Lib.hid hz1
      have HZ2 := Lib.hid hz2
      clear hz1 hz2
      have HLT : Hid (c.Bs ≤ wr.heap.size ∧ ∀ j, j < k → D j < wr.heap.size ∧ V j < wr.heap.size) := Lib.hid ⟨HU.out.1.2.2.2.2.2, fun j hj => ⟨(HU.out.1.2.2.2.1 j hj).1.lt, (HU.out.1.2.2.2.1 j hj).2.1.lt⟩⟩
      go_upto_if 33 with fail
      go_cut [17] (fun x wv => ∃ v, x = .slice (some ⟨v, 0, none⟩) (nn pk) (nn pk) ∧ wr.heap.size ≤ v ∧ Hid (LU c k D V wv) ∧ Hid (Bk wv v 39 (vlC pk ma mb).toArray))
      case first =>
        cases pk with
        | false =>
          go_wp2_with (first | (go_at_call 5; refine (HZ1.out _).mono ?_; rintro e w5 ⟨rfl, hb5⟩))
          go_meet
          have hb6 : Below wr.heap.size wr (w5.alloc (.cells (vlC false ma mb).toArray 39)) := hb5.alloc hb5.size _
          exact ⟨w5.heap.size, rfl, hb5.size, Lib.hid (HU.out.keep HOK.out hb6), Lib.hid (heap_alloc_new w5 (.cells (vlC false ma mb).toArray 39))⟩
        | true =>
          have HQX : Hid (∀ w' : World, Below wr.heap.size wr w' → w'.cell? ⟨b6, k, none⟩ = some (.int .u8 fk) ∧ w'.cell? ⟨b7, k, none⟩ = some (.int .u8 sk) ∧ Below wr.heap.size wr w') := Lib.hid fun w' hb => ⟨later hb hx6, later hb hx7, hb⟩
          clear hx6 hx7 hx8
          go_upto_region 9 with fail
          go_region_held3 (fun w' => w'.cell? ⟨b6, k, none⟩ = some (.int .u8 fk) ∧ w'.cell? ⟨b7, k, none⟩ = some (.int .u8 sk) ∧ Below wr.heap.size wr w')
            (first | (with_reducible exact HQX.out _ (Below.refl _ _).drew) | (with_reducible exact HQX.out _ HB5) | (with_reducible exact HQX.out _ HB6) | (with_reducible exact HQX.out _ (HB7 _)))
            (first
              | (go_at_call_of 5 fk; refine (HZ1.out _).mono ?_; rintro e w5 ⟨rfl, hb5⟩; have HB5 : Below wr.heap.size wr w5 := below_of hb5 rfl rfl rfl rfl; clear hb5)
              | (go_at_call_of 5 sk; refine (HZ2.out _).mono ?_; rintro e w6 ⟨rfl, hb6⟩; have HB6 := HB5.trans (hb6.mono HB5.size); have HB7 : ∀ o, Below wr.heap.size wr (w6.alloc o) := fun o => HB6.alloc HB6.size o; clear hb6))
          rename_i hH
          clear hH
          go_wp2_with fail
          go_meet
          exact ⟨w6.heap.size, rfl, HB6.size, Lib.hid (HU.out.keep HOK.out (HB7 _)), Lib.hid (heap_alloc_new w6 (.cells (vlC true ma mb).toArray 39))⟩
      case rest =>
      clear HU hx6 hx7 hx8 HZ1 HZ2
      obtain ⟨v, rfl, hvs, HU, HVV⟩ := hcut
      obtain ⟨N, hN⟩ : ∃ N, nn pk = N := ⟨_, rfl⟩
      have hN' : nn (c.pr k) = N := by rw [HV.out.2, hN]
      rw [hN]
      have HNN := Lib.hid (And.intro hN' (show (wr.heap.size : Nat) ≤ v from hvs))
      clear hN hN' hvs
      have hx9 : wc.cell? ⟨b9, k, none⟩ = some (.int .i32 (lc k)) := by have := HU.out.1.1.2.2.2 k hlt; rw [HC.out] at this; exact this
      have hw := w32 hlt
      have tg : ∀ o : Obj, (wc.alloc o).there gD 0 4 := fun o => by
        have := th_keep ((Below.refl wc.heap.size wc).alloc (Nat.le_refl _) o) HU.out.1.2.2.1
        rw [HC.out] at this
        exact this
      have tg0 : wc.there gD 0 4 := by have := HU.out.1.2.2.1; rw [HC.out] at this; exact this
      obtain ⟨v0, hv0⟩ := Option.isSome_iff_exists.1 (tg0 k hlt).1
      rw [Nat.zero_add] at hv0
      have e0 : ∀ o : Obj, (wc.alloc o).cell? ⟨gD, k, none⟩ = some v0 := fun o => alloc_cell hv0 o
      have f0 : ∀ o : Obj, (wc.alloc o).frozen? ⟨gD, k, none⟩ = false := fun o => by have := (tg o k hlt).2; rwa [Nat.zero_add] at this
      have HFR : Hid (LP c k (upM D k wc.heap.size) (upM V k v) (mkD c k v wc) ∧ RR (mkD c k v wc) c.r 4 (c.R (upM D k wc.heap.size) k)) := by
        refine Lib.hid (HU.out.fresh HOK.out hlt (by rw [HV.out.1]; exact HVV.out) ?_ ?_)
        · have h1 := HLT.out.1; have h2 := HNN.out.2; omega
        · intro j hj; have h1 := HLT.out.2 j hj; have h2 := HNN.out.2; omega
      have hmk : mkD c k v wc = (wc.alloc (.cells #[.string ⟨#[]⟩, .slice (some ⟨v, 0, none⟩) N N, .int .i32 (lc k), .int .i32 (k : Int), .int .u16 0, .bool imp] 45)).setCell ⟨gD, k, none⟩ (.pointer (some ⟨wc.heap.size, 0, none⟩)) := by
        unfold mkD deC
        rw [HNN.out.1, HC.out]
      have hB9 : BX4 c (mkD c k v wc) := HFR.out.1.1.1
      rw [hmk] at HFR hB9
      clear tg tg0 hv0
      go_upto_region 12 with fail
      clear hmk HU HVV hx9 e0 f0 hw
      obtain ⟨d, hd⟩ : ∃ d, wc.heap.size = d := ⟨_, rfl⟩
      rw [hd] at HFR hB9 ⊢
      clear hd
      obtain ⟨w3, hw3⟩ : ∃ x, (wc.alloc (.cells #[.string ⟨#[]⟩, .slice (some ⟨v, 0, none⟩) N N, .int .i32 (lc k), .int .i32 (k : Int), .int .u16 0, .bool imp] 45)).setCell ⟨gD, k, none⟩ (.pointer (some ⟨d, 0, none⟩)) = x := ⟨_, rfl⟩
      rw [hw3] at HFR hB9 ⊢
      clear hw3
      have hx9 : w3.drew.cell? ⟨b9, k, none⟩ = some (.int .i32 (lc k)) := by have := hB9.2.2.2 k hlt; rw [HC.out] at this; exact this
      have hgk : w3.drew.cell? ⟨gD, k, none⟩ = some (.pointer (some ⟨d, 0, none⟩)) := by have := HFR.out.1.1.2.1 k (by omega); rw [HC.out, upM_same] at this; exact this
      have hrt : w3.drew.there gr 0 8 := by have := HFR.out.1.2.2.1; rw [show c.r = gr by rw [HC.out]] at this; exact this
      obtain ⟨a0, ha0⟩ := Option.isSome_iff_exists.1 (hrt (k * 2) (by omega)).1
      obtain ⟨a1, ha1⟩ := Option.isSome_iff_exists.1 (hrt (k * 2 + 1) (by omega)).1
      have g0 := (hrt (k * 2) (by omega)).2
      have g1 := (hrt (k * 2 + 1) (by omega)).2
      rw [Nat.zero_add] at ha0 ha1 g0 g1
      have ha2 : w3.cell? ⟨gr, k * 2 + 1, none⟩ = some a1 := ha1
      have g2 : w3.frozen? ⟨gr, k * 2 + 1, none⟩ = false := g1
      have HP4 : Hid (LP c k (upM D k d) (upM V k v) (w3.setCells gr (k * 2) (ruR (some d, lc k))).drew ∧ RR (w3.setCells gr (k * 2) (ruR (some d, lc k))).drew c.r 4 (c.R (upM D k d) (k + 1))) := by
        have hdr : ∀ W : World, Below W.heap.size W W.drew := fun W => ⟨rfl, rfl, rfl, Nat.le_refl _, fun _ _ => rfl⟩
        have e1 : c.r = gr := by rw [HC.out]
        have e2 : c.lc k = lc k := by rw [HC.out]
        have h3 := HFR.out.1.rule HOK.out (k * 2) (some d, lc k)
        have h4 := rule_put HFR.out.2 HFR.out.1.2.2.1 hlt
        rw [upM_same, e2, e1] at h4
        rw [e1] at h3 ⊢
        exact Lib.hid ⟨h3.keep HOK.out (hdr _), h4.keep (hdr _)⟩
      unfold ruR dv at HP4
      simp only [World.setCells] at HP4
      clear HFR hB9 hrt
      go_region
      obtain ⟨w4, hw4⟩ : ∃ x, ((w3.setCell ⟨gr, k * 2, none⟩ (.iface 25 (.pointer (some ⟨d, 0, none⟩)))).setCell ⟨gr, k * 2 + 1, none⟩ (.int .i32 (lc k))).drew = x := ⟨_, rfl⟩
      rw [hw4] at HP4 ⊢
      clear hw4 ha0 ha1 g0 g1 hx9 hgk ha2 g2
      have hgk : w4.cell? ⟨gD, k, none⟩ = some (.pointer (some ⟨d, 0, none⟩)) := by have := HP4.out.1.1.2.1 k (by omega); rw [upM_same, show c.gD = gD by rw [HC.out]] at this; exact this
      have hdr4 : Below w4.heap.size w4 w4.drew := ⟨rfl, rfl, rfl, Nat.le_refl _, fun _ _ => rfl⟩
      have hcall := lp_call mf 4 (HP4.out.1.keep HOK.out hdr4) HOK.out hlt (HP4.out.2.keep hdr4)
      rw [show c.t = t by rw [HC.out], show c.r = gr by rw [HC.out], upM_same] at hcall
      have HCA := Lib.hid hcall
      clear hcall hdr4
      go_upto_region 13 with fail
      have q2 : (0 : Int) ≤ (k : Int) + 1 := by omega
      have q3 : (k : Int) + 1 ≤ 4 := by omega
      have q4 : ((k : Int) + 1).toNat = k + 1 := by omega
      have q5 : IntKind.i64.wrap ((k : Int) + 1) = (k : Int) + 1 := by
        have c : k = 0 ∨ k = 1 ∨ k = 2 ∨ k = 3 := by omega
        rcases c with rfl | rfl | rfl | rfl <;> rfl
      go_still_tail 10, (by kernel_rfl)
      change wpList _ _ _ _ _ _
      go_wp2_with (first | (go_at_call 6; refine HCA.out.mono ?_; rintro e w9 ⟨rfl, hle⟩))
      exact ⟨⟨k + 1, upM D k d, upM V k v, by omega, by go_num, Lib.hid hle⟩, by simp [intOf]; omega⟩
    -- part>
  case rest =>
    clear HE
    obtain ⟨D, V, HE⟩ := hcut
    have hZ : AW c.A c.B wc.heap.size (wc.heap.size + 1) 0 0 wc ((wc.alloc (.cells #[.int .u8 0, .int .u8 0, .int .u8 0, .int .u8 0] 22)).alloc (.cells #[.int .u8 0, .int .u8 0, .int .u8 0, .int .u8 0] 22)) := by
      have h1 := th_new wc #[.int .u8 0, .int .u8 0, .int .u8 0, .int .u8 0] 22 (n := 4) rfl
      have h2 := th_new (wc.alloc (.cells #[.int .u8 0, .int .u8 0, .int .u8 0, .int .u8 0] 22)) #[.int .u8 0, .int .u8 0, .int .u8 0, .int .u8 0] 22 (n := 4) rfl
      rw [World.size_alloc] at h2
      have hb := ((Below.refl wc.heap.size wc).alloc (Nat.le_refl _) (.cells #[.int .u8 0, .int .u8 0, .int .u8 0, .int .u8 0] 22)).alloc (by simp) (.cells #[.int .u8 0, .int .u8 0, .int .u8 0, .int .u8 0] 22)
      exact ⟨fun j hj => absurd hj (by omega), fun j hj => absurd hj (by omega), th_keep ((Below.refl _ _).alloc (Nat.le_refl _) _) h1, h2, hb, hb.size⟩
    go_upto_region 16 with fail
    obtain ⟨wE, hwE⟩ : ∃ x, wc = x := ⟨_, rfl⟩
    rw [hwE] at hZ HE ⊢
    clear hwE
    obtain ⟨w2, hw2⟩ : ∃ x, (wE.alloc (.cells #[.int .u8 0, .int .u8 0, .int .u8 0, .int .u8 0] 22)).alloc (.cells #[.int .u8 0, .int .u8 0, .int .u8 0, .int .u8 0] 22) = x := ⟨_, rfl⟩
    rw [hw2] at hZ ⊢
    clear hw2
    generalize hgb : wE.heap.size + 1 = gb at *
    generalize hga : wE.heap.size = ga at *
    have HZ := Lib.hid hZ
    have HG : Hid (ga ≠ gb ∧ wE.heap.size ≤ ga ∧ wE.heap.size ≤ gb) := Lib.hid (by omega)
    clear hZ hgb hga
    have HQB : Hid (∀ W : World, Below wE.heap.size wE W → BX4 c W) := Lib.hid fun W hb => HE.out.core.1.keep hb
    go_upto_block 2 with fail
    go_cut [18] (fun x wq => x = .bool (acc c.A c.B 4) ∧ Hid (AW c.A c.B ga gb 4 4 wE wq))
    case first =>
      -- <part
      go_wp2_with fail
      go_loopw [18, 21] (fun uv iv wr => ∃ (k : Nat) (b : Bool), k ≤ 4 ∧ iv = .int .i64 k ∧ uv = .bool b ∧ Hid (b = acc c.A c.B k) ∧ Hid (AW c.A c.B ga gb k k wE wr)) (fun _ iv _ => 4 - (intOf iv).toNat)
      case atStart => exact ⟨0, true, by omega, rfl, rfl, Lib.hid rfl, HZ⟩
      case round =>
        clear HZ
        obtain ⟨k, b, hk, rfl, rfl, HB, HT⟩ := hrel
        by_cases hlt : k < 4
        case neg =>
          obtain rfl : k = 4 := by omega
          go_wp2_with fail
          go_meet
          exact ⟨by rw [HB.out], HT⟩
        have q0 : (0 : Int) ≤ k := by omega
        have q1 : (k : Int) < 4 := by omega
        have HXX : Hid (∀ W : World, Below wE.heap.size wE W → W.cell? ⟨b6, k, none⟩ = some (.int .u8 (f k)) ∧ W.cell? ⟨b7, k, none⟩ = some (.int .u8 (s k)) ∧ W.cell? ⟨b8, k, none⟩ = some (.bool (pr k))) := Lib.hid fun W hb => by
          have h := HQB.out W hb
          rw [HC.out] at h
          exact ⟨h.1 k hlt, h.2.1 k hlt, h.2.2.1 k hlt⟩
        obtain ⟨am, ham⟩ : ∃ m, c.A k = m := ⟨_, rfl⟩
        obtain ⟨bm, hbm⟩ : ∃ m, c.B k = m := ⟨_, rfl⟩
        obtain ⟨hf0, hf1⟩ := HF.out.1 k hlt
        obtain ⟨hs0, hs1⟩ := HF.out.2 k hlt
        have e6 : (f k).tmod 8 = am := by rw [Int.tmod_eq_emod_of_nonneg hf0, ← ham, HC.out]; rfl
        have HPB : Hid ((pr k = true → (s k).tmod 8 = bm) ∧ (pr k = false → bm = am)) := Lib.hid (by
          rw [Int.tmod_eq_emod_of_nonneg hs0, ← hbm, ← ham, HC.out]
          unfold LB.A LB.B
          dsimp only
          exact ⟨fun h => by rw [if_pos h], fun h => by rw [if_neg (by rw [h]; decide)]⟩)
        have HAB := Lib.hid (And.intro ham hbm)
        generalize f k = fk at *
        generalize s k = sk at *
        generalize pr k = pk at *
        clear ham hbm
        have h6 := (HXX.out wr HT.out.2.2.2.2.1).1
        obtain ⟨v0, ev0⟩ := Option.isSome_iff_exists.1 (HT.out.2.2.1 k hlt).1
        have fv0 := (HT.out.2.2.1 k hlt).2
        rw [Nat.zero_add] at ev0 fv0
        go_upto_region 20 with fail
        have HT1 : Hid (AW c.A c.B ga gb (k + 1) k wE (wr.setCell ⟨ga, k, none⟩ (.int .u8 am))) := Lib.hid (by have := HT.out.put1 hlt HG.out.1 HG.out.2.1; rw [HAB.out.1] at this; exact this)
        clear ev0 fv0 h6 HT e6
        generalize World.setCell wr _ _ = wa at *
        have h19 : wa.cell? ⟨ga, k, none⟩ = some (.int .u8 am) := by have := HT1.out.1 k (by omega); rw [HAB.out.1] at this; exact this
        have h8 := (HXX.out wa HT1.out.2.2.2.2.1).2.2
        obtain ⟨v0, ev0⟩ := Option.isSome_iff_exists.1 (HT1.out.2.2.2.1 k hlt).1
        have fv0 := (HT1.out.2.2.2.1 k hlt).2
        rw [Nat.zero_add] at ev0 fv0
        go_upto_region 21 with fail
        have HT2 : Hid (AW c.A c.B ga gb (k + 1) k wE (wa.setCell ⟨gb, k, none⟩ (.int .u8 am))) := Lib.hid (HT1.out.junk HG.out.1 HG.out.2.2 _)
        have HT3 : Hid (pk = false → AW c.A c.B ga gb (k + 1) (k + 1) wE (wa.setCell ⟨gb, k, none⟩ (.int .u8 am))) := Lib.hid fun hp => by have := HT1.out.put2 hlt HG.out.1 HG.out.2.2; rw [HAB.out.2, HPB.out.2 hp] at this; exact this
        clear ev0 fv0 h19 h8 HT1
        generalize World.setCell wa _ _ = wb at *
        obtain ⟨h7, h8⟩ := (HXX.out wb HT2.out.2.2.2.2.1).2
        go_upto_if 101 with fail
        go_cut [] (fun wq => Hid (AW c.A c.B ga gb (k + 1) (k + 1) wE wq))
        case first =>
          cases pk with
          | false =>
            have HT4 := Lib.hid (HT3.out rfl)
            clear HT3
            go_wp2_with fail
            go_meet
            exact HT4
          | true =>
            have e7 : sk.tmod 8 = bm := HPB.out.1 rfl
            obtain ⟨v0, ev0⟩ := Option.isSome_iff_exists.1 (HT2.out.2.2.2.1 k hlt).1
            have fv0 := (HT2.out.2.2.2.1 k hlt).2
            rw [Nat.zero_add] at ev0 fv0
            go_wp2_with fail
            go_meet
            exact Lib.hid (by have := HT2.out.put2 hlt HG.out.1 HG.out.2.2; rw [HAB.out.2] at this; exact this)
        case rest =>
        clear HT2 HT3 h7 h8 HPB
        have HT := hcut
        clear hcut
        have x1 : wc.cell? ⟨ga, k, none⟩ = some (.int .u8 am) := by have := HT.out.1 k (by omega); rw [HAB.out.1] at this; exact this
        have x2 : wc.cell? ⟨gb, k, none⟩ = some (.int .u8 bm) := by have := HT.out.2.1 k (by omega); rw [HAB.out.2] at this; exact this
        have HAC : Hid (acc c.A c.B (k + 1) = (b && decide (am ≤ 4 ∧ bm ≤ 4))) := Lib.hid (by rw [HB.out, ← HAB.out.1, ← HAB.out.2]; rfl)
        clear HB HXX
        by_cases y1 : am ≤ 4
        · have y1' : ¬ (4 : Int) < am := by omega
          by_cases y2 : bm ≤ 4
          · have y2' : ¬ (4 : Int) < bm := by omega
            have HN : Hid (b = acc c.A c.B (k + 1)) := Lib.hid (by rw [HAC.out, decide_eq_true ⟨y1, y2⟩, Bool.and_true])
            clear y1 y2
            go_wp2_with fail
            exact ⟨⟨k + 1, b, by omega, by go_num, rfl, HN, HT⟩, by simp [intOf]; omega⟩
          · have y2' : (4 : Int) < bm := by omega
            have HN : Hid (false = acc c.A c.B (k + 1)) := Lib.hid (by rw [HAC.out, decide_eq_false (fun h => y2 h.2), Bool.and_false])
            clear y1 y2
            go_wp2_with fail
            exact ⟨⟨k + 1, false, by omega, by go_num, rfl, HN, HT⟩, by simp [intOf]; omega⟩
        · have y1' : (4 : Int) < am := by omega
          have HN : Hid (false = acc c.A c.B (k + 1)) := Lib.hid (by rw [HAC.out, decide_eq_false (fun h => y1 h.1), Bool.and_false])
          clear y1
          go_wp2_with fail
          exact ⟨⟨k + 1, false, by omega, by go_num, rfl, HN, HT⟩, by simp [intOf]; omega⟩
      -- part>
    case rest =>
    clear HZ
    obtain ⟨rfl, HZ⟩ := hcut
    have hbE : Below wE.heap.size wE wc := HZ.out.2.2.2.2.1
    have hEk := HE.out.keep HOK.out hbE
    have hmr := acc_mrg c.A c.B
    have e1 : c.r = gr := by rw [HC.out]
    have e2 : c.gD = gD := by rw [HC.out]
    have e3 : c.b9 = b9 := by rw [HC.out]
    have HEQ := Lib.hid (And.intro e1 (And.intro e2 e3))
    clear e1 e2 e3 HE HQB hbE
    cases hacc : acc c.A c.B 4 with
    | false =>
      have HU : Hid (LU c 4 D V wc) := Lib.hid (hEk.1 (fun h => by have := hmr.2 h; rw [hacc] at this; cases this))
      clear hacc hmr hEk HZ
      go_wp2_with fail
      go_loopw [22] (fun iv wr => ∃ k : Nat, k ≤ 4 ∧ iv = .int .i64 k ∧ Hid (LU c 4 D V wr)) (fun iv _ => 4 - (intOf iv).toNat)
      case atStart => exact ⟨0, by omega, rfl, HU⟩
      case round =>
        clear HU
        obtain ⟨k, hk, rfl, HU⟩ := hrel
        by_cases hlt : k < 4
        case neg =>
          obtain rfl : k = 4 := by omega
          go_wp2_with fail
          go_ret
          exact ⟨rfl, by have := HU.out.1.2.2.2.2.1; rw [HC.out] at this; exact this⟩
        have q0 : (0 : Int) ≤ k := by omega
        have q1 : (k : Int) < 4 := by omega
        have HK : Hid (∀ W : World, Below wr.heap.size wr W → Calls Tryd.prog 7 #[.slice (some ⟨gr, 0, none⟩) 4 4, .slice (some ⟨gD, 0, none⟩) 4 4, .slice (some ⟨b9, 0, none⟩) 4 4, .int .i64 (k : Int)] W (TrueB W)) := Lib.hid fun W hb => by
          have h := (HU.out.keep HOK.out hb).kept hlt
          rw [HEQ.out.1, HEQ.out.2.1, HEQ.out.2.2] at h
          exact h
        go_upto_region 29 with fail
        go_region_held3 (fun w' => Below wr.heap.size wr w')
          (first | (with_reducible exact (Below.refl _ _).drew) | (with_reducible exact HB5))
          (first | (go_at_call 7; refine (HK.out _ (Below.refl _ _).drew).mono ?_; rintro e w5 ⟨rfl, hb5⟩; have HB5 : Below wr.heap.size wr w5 := below_of hb5 rfl rfl rfl rfl; clear hb5))
        rename_i hH
        have HU5 := Lib.hid (HU.out.keep HOK.out HB5)
        clear hH HB5 HU HK
        have HL : Hid (∀ W : World, Below w5.heap.size w5 W → Calls Tryd.prog 8 #[.pointer (some ⟨D k, 0, none⟩), .int .u8 (f k), .int .u8 (s k), .bool (pr k)] W (TrueB W)) := Lib.hid fun W hb => by
          have h := (HU5.out.keep HOK.out hb).long hlt (by rw [HC.out]; exact HF.out.1 k hlt) (by rw [HC.out]; exact HF.out.2 k hlt)
          rw [show c.f k = f k by rw [HC.out], show c.s k = s k by rw [HC.out], show c.pr k = pr k by rw [HC.out]] at h
          exact h
        have HXX : Hid (∀ W : World, Below w5.heap.size w5 W → W.cell? ⟨gD, k, none⟩ = some (.pointer (some ⟨D k, 0, none⟩)) ∧ W.cell? ⟨b6, k, none⟩ = some (.int .u8 (f k)) ∧ W.cell? ⟨b7, k, none⟩ = some (.int .u8 (s k)) ∧ W.cell? ⟨b8, k, none⟩ = some (.bool (pr k)) ∧ Below w5.heap.size w5 W) := Lib.hid fun W hb => by
          have h0 := (HU5.out.keep HOK.out hb).1
          have h := h0.1
          have h9 := h0.2.1 k hlt
          rw [HEQ.out.2.1] at h9
          rw [HC.out] at h
          exact ⟨h9, h.1 k hlt, h.2.1 k hlt, h.2.2.1 k hlt, hb⟩
        go_upto_region 31 with fail
        go_region_held3 (fun w' => w'.cell? ⟨gD, k, none⟩ = some (.pointer (some ⟨D k, 0, none⟩)) ∧ w'.cell? ⟨b6, k, none⟩ = some (.int .u8 (f k)) ∧ w'.cell? ⟨b7, k, none⟩ = some (.int .u8 (s k)) ∧ w'.cell? ⟨b8, k, none⟩ = some (.bool (pr k)) ∧ Below w5.heap.size w5 w')
          (first | (with_reducible exact HXX.out _ (Below.refl _ _).drew) | (with_reducible exact HXX.out _ HB6))
          (first | (go_at_call 8; refine (HL.out _ (Below.refl _ _).drew).mono ?_; rintro e w6 ⟨rfl, hb6⟩; have HB6 : Below w5.heap.size w5 w6 := below_of hb6 rfl rfl rfl rfl; clear hb6))
        rename_i hH
        have HU6 := Lib.hid (HU5.out.keep HOK.out HB6)
        clear hH HB6 HU5 HL HXX
        go_wp2_with fail
        exact ⟨⟨k + 1, by omega, by go_num, HU6⟩, by simp [intOf]; omega⟩
    | true =>
      have hm : mrg (c.Q 4) := hmr.1 hacc
      obtain ⟨-, d, g, nv, cv, X, hM, hVX, hdD⟩ := hEk.2 hm
      have HM := Lib.hid (And.intro hM (And.intro (HZ.out.keep (Below.refl _ _)) (Nat.le_refl wc.heap.size)))
      have HV := Lib.hid (And.intro hm (And.intro hVX hdD))
      clear hacc hmr hEk HZ hm hM hVX hdD
      go_upto_block 6 with fail
      go_cut [] (fun wq => Hid (LM c D V d g nv cv X wq ∧ AW c.A c.B ga gb 4 4 wE wq))
      case first =>
        -- <part
        go_wp2_with fail
        go_loopw [23] (fun iv wr => ∃ k : Nat, k ≤ 3 ∧ iv = .int .i64 k ∧ Hid (LM c D V d g nv cv X wr ∧ AW c.A c.B ga gb 4 4 wE wr)) (fun iv _ => 3 - (intOf iv).toNat)
        case atStart => exact ⟨0, by omega, rfl, Lib.hid ⟨HM.out.1, HM.out.2.1⟩⟩
        case round =>
          clear HM
          obtain ⟨k, hk, rfl, HM⟩ := hrel
          by_cases hlt : k < 3
          case neg =>
            obtain rfl : k = 3 := by omega
            go_wp2_with fail
            go_meet
            exact HM
          have q0 : (0 : Int) ≤ k := by omega
          have q1 : (k : Int) < 3 := by omega
          have hgo := HM.out.1.gone hlt
          rw [HEQ.out.1] at hgo
          have HGO := Lib.hid hgo
          clear hgo
          go_wp2_with (first | (go_at_call 9; refine HGO.out.mono ?_; rintro e w5 ⟨rfl, hb5⟩))
          have HM5 : Hid (LM c D V d g nv cv X w5 ∧ AW c.A c.B ga gb 4 4 wE w5) := Lib.hid ⟨HM.out.1.keep HOK.out hb5, HM.out.2.keep hb5⟩
          exact ⟨⟨k + 1, by omega, by go_num, HM5⟩, by simp [intOf]; omega⟩
        -- part>
      case rest =>
      clear HM
      have HM := hcut
      clear hcut
      obtain ⟨m, hm⟩ : ∃ m, mz id c.lc 4 = m := ⟨_, rfl⟩
      obtain ⟨r6, r7⟩ := HM.out.1.rule3
      rw [HEQ.out.1, hm] at r7
      rw [HEQ.out.1] at r6
      have hdo := fun W => do_any (some d) m W
      unfold dv pv at hdo
      have HDO := Lib.hid hdo
      have Hm := Lib.hid hm
      clear hdo hm
      go_upto_region 40 with (first | (go_at_call 10; refine (HDO.out _).mono ?_; rintro e w5 ⟨rfl, hb5⟩))
      have HM5 : Hid (LM c D V d g nv cv X w5 ∧ AW c.A c.B ga gb 4 4 wE w5) := Lib.hid ⟨HM.out.1.keep HOK.out hb5, HM.out.2.keep hb5⟩
      clear HM hb5 r6 r7 HDO
      have cj0 : w5.cell? ⟨gD, 0, none⟩ = some (.pointer (some ⟨D 0, 0, none⟩)) := by have := HM5.out.1.1.2.1 0 (by omega); rw [HEQ.out.2.1] at this; exact this
      have hpe0 := pe_other (HV.out.2.2 0 (by omega)) HM5.out.1.2.2.1 (HM5.out.1.1.2.2.2.1 0 (by omega)).1
      have cj1 : w5.cell? ⟨gD, 1, none⟩ = some (.pointer (some ⟨D 1, 0, none⟩)) := by have := HM5.out.1.1.2.1 1 (by omega); rw [HEQ.out.2.1] at this; exact this
      have hpe1 := pe_other (HV.out.2.2 1 (by omega)) HM5.out.1.2.2.1 (HM5.out.1.1.2.2.2.1 1 (by omega)).1
      have cj2 : w5.cell? ⟨gD, 2, none⟩ = some (.pointer (some ⟨D 2, 0, none⟩)) := by have := HM5.out.1.1.2.1 2 (by omega); rw [HEQ.out.2.1] at this; exact this
      have hpe2 := pe_other (HV.out.2.2 2 (by omega)) HM5.out.1.2.2.1 (HM5.out.1.1.2.2.2.1 2 (by omega)).1
      have cj3 : w5.cell? ⟨gD, 3, none⟩ = some (.pointer (some ⟨D 3, 0, none⟩)) := by have := HM5.out.1.1.2.1 3 (by omega); rw [HEQ.out.2.1] at this; exact this
      have hpe3 := pe_other (HV.out.2.2 3 (by omega)) HM5.out.1.2.2.1 (HM5.out.1.1.2.2.2.1 3 (by omega)).1
      go_upto_region 42 with fail
      clear cj0 hpe0 cj1 hpe1 cj2 hpe2 cj3 hpe3
      obtain ⟨-, r7⟩ := HM5.out.1.rule3
      rw [HEQ.out.1, Hm.out] at r7
      have HML : Hid (∀ W : World, Below w5.heap.size w5 W → Calls Tryd.prog 11 #[.agg #[.int .i64 0, .int .i64 1, .int .i64 2, .int .i64 3], .slice (some ⟨b9, 0, none⟩) 4 4] W fun e w' => e = .returned (.int .i32 m) ∧ Below W.heap.size W w') := Lib.hid fun W hb => by
        have h := (HM5.out.1.keep HOK.out hb).minl
        rw [HEQ.out.2.2, Hm.out] at h
        exact h
      have HQX : Hid (∀ w' : World, Below w5.heap.size w5 w' → w'.cell? ⟨gr, 7, none⟩ = some (.int .i32 m) ∧ Below w5.heap.size w5 w') := Lib.hid fun w' hb => ⟨later hb r7, hb⟩
      clear r7
      go_region_held3 (fun w' => w'.cell? ⟨gr, 7, none⟩ = some (.int .i32 m) ∧ Below w5.heap.size w5 w')
        (first | (with_reducible exact HQX.out _ (Below.refl _ _).drew) | (with_reducible exact HQX.out _ HB7))
        (first | (go_at_call 11; refine (HML.out _ (Below.refl _ _).drew).mono ?_; rintro e w7 ⟨rfl, hb7⟩; have HB7 : Below w5.heap.size w5 w7 := below_of hb7 rfl rfl rfl rfl; clear hb7))
      rename_i hH
      have HM7 : Hid (LM c D V d g nv cv X w7 ∧ AW c.A c.B ga gb 4 4 wE w7) := Lib.hid ⟨HM5.out.1.keep HOK.out HB7, HM5.out.2.keep HB7⟩
      clear hH HB7 HM5 HQX HML
      have HDS : Hid (∀ W : World, Below w7.heap.size w7 W → Calls Tryd.prog 12 #[.pointer (some ⟨d, 0, none⟩), .agg #[.int .i32 (lc 3), .int .i32 3], .bool imp] W (TrueB W)) := Lib.hid fun W hb => by
        have h := (HM7.out.1.keep HOK.out hb).decl
        rw [show c.lc 3 = lc 3 by rw [HC.out], show c.imp = imp by rw [HC.out]] at h
        exact h
      have HCV : Hid (∀ W : World, Below w7.heap.size w7 W → Calls Tryd.prog 13 #[.slice (some ⟨g, 0, none⟩) nv cv, .agg #[.int .u8 (c.A 0), .int .u8 (c.A 1), .int .u8 (c.A 2), .int .u8 (c.A 3)], .agg #[.int .u8 (c.B 0), .int .u8 (c.B 1), .int .u8 (c.B 2), .int .u8 (c.B 3)], .bool mf] W (TrueB W)) := Lib.hid fun W hb => (HM7.out.1.keep HOK.out hb).value HV.out.2.1 HV.out.1
      have HQY : Hid (∀ w' : World, Below w7.heap.size w7 w' → w'.cell? ⟨gD, 3, none⟩ = some (.pointer (some ⟨D 3, 0, none⟩)) ∧ w'.cell? ⟨D 3, 2, none⟩ = some (.int .i32 (lc 3)) ∧ w'.cell? ⟨D 3, 3, none⟩ = some (.int .i32 3) ∧ w'.cell? ⟨d, 1, none⟩ = some (.slice (some ⟨g, 0, none⟩) nv cv) ∧ w'.cell? ⟨ga, 0, none⟩ = some (.int .u8 (c.A 0)) ∧ w'.cell? ⟨ga, 1, none⟩ = some (.int .u8 (c.A 1)) ∧ w'.cell? ⟨ga, 2, none⟩ = some (.int .u8 (c.A 2)) ∧ w'.cell? ⟨ga, 3, none⟩ = some (.int .u8 (c.A 3)) ∧ w'.cell? ⟨gb, 0, none⟩ = some (.int .u8 (c.B 0)) ∧ w'.cell? ⟨gb, 1, none⟩ = some (.int .u8 (c.B 1)) ∧ w'.cell? ⟨gb, 2, none⟩ = some (.int .u8 (c.B 2)) ∧ w'.cell? ⟨gb, 3, none⟩ = some (.int .u8 (c.B 3)) ∧ Below w7.heap.size w7 w') := Lib.hid fun w' hb => by
        obtain ⟨h1, h2⟩ := (show LM c D V d g nv cv X w' ∧ AW c.A c.B ga gb 4 4 wE w' from ⟨HM7.out.1.keep HOK.out hb, HM7.out.2.keep hb⟩)
        have h3 := h1.1.2.1 3 (by omega)
        rw [HEQ.out.2.1] at h3
        have h4 := (h1.1.2.2.2.1 3 (by omega)).1
        have h5 : w'.cell? ⟨D 3, 2, none⟩ = some (.int .i32 (c.lc 3)) := h4.cell 2 rfl
        have h6 : w'.cell? ⟨D 3, 3, none⟩ = some (.int .i32 3) := h4.cell 3 rfl
        rw [show c.lc 3 = lc 3 by rw [HC.out]] at h5
        exact ⟨h3, h5, h6, h1.2.2.1.cell 1 rfl, h2.1 0 (by omega), h2.1 1 (by omega), h2.1 2 (by omega), h2.1 3 (by omega), h2.2.1 0 (by omega), h2.2.1 1 (by omega), h2.2.1 2 (by omega), h2.2.1 3 (by omega), hb⟩
      go_upto_region 44 with fail
      go_region_held3 (fun w' => w'.cell? ⟨gD, 3, none⟩ = some (.pointer (some ⟨D 3, 0, none⟩)) ∧ w'.cell? ⟨D 3, 2, none⟩ = some (.int .i32 (lc 3)) ∧ w'.cell? ⟨D 3, 3, none⟩ = some (.int .i32 3) ∧ w'.cell? ⟨d, 1, none⟩ = some (.slice (some ⟨g, 0, none⟩) nv cv) ∧ w'.cell? ⟨ga, 0, none⟩ = some (.int .u8 (c.A 0)) ∧ w'.cell? ⟨ga, 1, none⟩ = some (.int .u8 (c.A 1)) ∧ w'.cell? ⟨ga, 2, none⟩ = some (.int .u8 (c.A 2)) ∧ w'.cell? ⟨ga, 3, none⟩ = some (.int .u8 (c.A 3)) ∧ w'.cell? ⟨gb, 0, none⟩ = some (.int .u8 (c.B 0)) ∧ w'.cell? ⟨gb, 1, none⟩ = some (.int .u8 (c.B 1)) ∧ w'.cell? ⟨gb, 2, none⟩ = some (.int .u8 (c.B 2)) ∧ w'.cell? ⟨gb, 3, none⟩ = some (.int .u8 (c.B 3)) ∧ Below w7.heap.size w7 w')
        (first | (with_reducible exact HQY.out _ (Below.refl _ _).drew) | (with_reducible exact HQY.out _ HB8) | (with_reducible exact HQY.out _ HB9))
        (first
          | (go_at_call 12; refine (HDS.out _ (Below.refl _ _).drew).mono ?_; rintro e w8 ⟨rfl, hb8⟩; have HB8 : Below w7.heap.size w7 w8 := below_of hb8 rfl rfl rfl rfl; clear hb8)
          | (go_at_call 13; refine (HCV.out _ HB8).mono ?_; rintro e w9 ⟨rfl, hb9⟩; have HB9 := HB8.trans (hb9.mono HB8.size); clear hb9))
      rename_i hH
      have HM9 := Lib.hid (HM7.out.1.keep HOK.out HB9)
      clear hH HB8 HB9 HM7 HQY HDS HCV
      go_wp2_with fail
      go_ret
      exact ⟨rfl, by have := HM9.out.1.2.2.2.2.1; rw [HC.out] at this; exact this⟩
end Go.Proofs.YtmaljklijpoojaaDoor.Co
