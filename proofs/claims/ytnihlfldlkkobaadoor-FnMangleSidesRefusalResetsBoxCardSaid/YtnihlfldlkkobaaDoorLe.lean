/-
  expandTokenQuad at one token '1%', and at a list that it refuses.
-/
import Derived.Test.YtnihlfldlkkobaaDoorLd
namespace Go.Proofs.YtnihlfldlkkobaaDoor.Bx
open Go.ChangeShapes Go.WideShapes Go.ChangeAt Go.RowKit Rg Quad
set_option linter.unusedVariables false
set_option linter.unusedSimpArgs false
theorem auto_list : (⟨#[97, 117, 116, 111]⟩ : ByteArray).toList = [97, 117, 116, 111] := by kernel_rfl
/-- tokens j of the quad laid -/
def QE (g k : Nat) (T : List Value) (w0 w : World) : Prop := (∀ j, j < k → w.rangeAt g (j * 7) T) ∧ w.there g 0 28 ∧ Below w0.heap.size w0 w
theorem QE.put {g k : Nat} {T : List Value} {w0 w : World} (h : QE g k T w0 w) (hl : T.length = 7) (hk : k < 4) (hg : w0.heap.size ≤ g) : QE g (k + 1) T w0 (w.setCells g (k * 7) T) := by
  obtain ⟨h1, h2, h3⟩ := h
  refine ⟨fun j hj => ?_, World.there_setCells h2 _ _ _, below_setCells hg _ _ h3⟩
  by_cases e : j = k
  · subst e
    exact World.rangeAt_setCells_same _ _ _ _ (th_sub h2 (by omega) (by rw [hl]; omega))
  · exact World.rangeAt_setCells_apart (h1 j (by omega)) _ _ _ (.inr (.inl (by rw [hl]; omega)))
theorem q28_of {g : Nat} {w0 w : World} (h : QE g 4 (tyR (0, 0)) w0 w) : w.rangeAt g 0 q28 := by
  have c0 := h.1 0 (by omega)
  have c1 := h.1 1 (by omega)
  have c2 := h.1 2 (by omega)
  have c3 := h.1 3 (by omega)
  simp only [Nat.reduceMul, Nat.zero_mul] at c0 c1 c2 c3
  unfold q28
  refine rg_append c0 (rg_append ?_ (rg_append ?_ ?_))
  · rw [tyR_len]; exact c1
  · rw [tyR_len]; exact c2
  · rw [tyR_len]; exact c3
set_option maxRecDepth 100000 in
set_option maxHeartbeats 4000000 in
theorem eq_one (v : Nat) (ai : ByteArray) (w : World) (hv : w.rangeAt v 0 (tyR (0, 0))) :
    Calls Tryd.prog 20 #[.slice (some ⟨v, 0, none⟩) 1 1, .string ai] w fun e w' => e = .returned (.tuple #[.agg q28.toArray, .bool true]) ∧ Below w.heap.size w w' := by
  have hvl : v < w.heap.size := rg_lt hv (by simp [tyR])
  have h0 : QE w.heap.size 0 (tyR (0, 0)) w (w.alloc (.cells z28.toArray 74)) := ⟨fun j hj => absurd hj (by omega), th_new w _ _ rfl, (Below.refl _ _).alloc (Nat.le_refl _) _⟩
  have hv0 := rg_keep h0.2.2 hv
  have HQ := Lib.hid h0
  have HV := Lib.hid hv0
  have HVL := Lib.hid hvl
  clear h0 hv0 hvl hv
  go_enter Tryd.func20, Tryd.ntmps20
  go_upto_region 1 with (first | (refine wpl_alloc rfl 74 rfl _ _ (run_al28 w) ?_))
  generalize World.alloc w _ = w1 at *
  go_upto_block 0 with fail
  go_cut [] (fun wc => Hid (QE w.heap.size 0 (tyR (0, 0)) w wc ∧ wc.rangeAt v 0 (tyR (0, 0))))
  case first =>
    -- <part
    go_wp2_with fail
    go_loopw [7] (fun iv wr => ∃ k : Nat, k ≤ 1 ∧ iv = .int .i64 k ∧ Hid (QE w.heap.size 0 (tyR (0, 0)) w wr ∧ wr.rangeAt v 0 (tyR (0, 0)))) (fun iv _ => 1 - (intOf iv).toNat)
    case atStart => exact ⟨0, by omega, rfl, Lib.hid ⟨HQ.out, HV.out⟩⟩
    case round =>
      clear HQ HV
      obtain ⟨k, hk, rfl, HT⟩ := hrel
      have hk2 : k = 0 ∨ k = 1 := by omega
      clear hk
      rcases hk2 with rfl | rfl
      case inr =>
        go_wp2_with fail
        go_meet
        exact HT
      obtain ⟨t0, t1, t2, t3, t4, t5, t6⟩ := cells7 HT.out.2
      simp only [Nat.zero_add] at t0 t1 t2 t3 t4 t5 t6
      (try dsimp only at t1 t5)
      have HN : ∀ o : Obj, Hid (QE w.heap.size 0 (tyR (0, 0)) w (wr.alloc o) ∧ (wr.alloc o).rangeAt v 0 (tyR (0, 0))) := fun o => Lib.hid ⟨⟨fun j hj => absurd hj (by omega), World.there_alloc HT.out.1.2.1 o, HT.out.1.2.2.alloc HT.out.1.2.2.size o⟩, World.rangeAt_alloc HT.out.2 o⟩
      have HNU := Lib.hid nu1
      go_wp2_with (first | (go_at_call 21; refine (HNU.out _).mono ?_; rintro e wk ⟨rfl, hwk⟩; rw [hwk]; clear hwk))
      exact ⟨⟨1, by omega, rfl, HN _⟩, by simp [intOf]⟩
    -- part>
  case rest =>
  clear HQ HV
  have HQ := Lib.hid hcut.out.1
  have HV := Lib.hid hcut.out.2
  clear hcut
  have hgv : v ≠ w.heap.size := by have := HVL.out; omega
  have HG : Hid (v ≠ w.heap.size ∧ w.heap.size ≤ w.heap.size) := Lib.hid ⟨hgv, Nat.le_refl _⟩
  clear hgv
  obtain ⟨T, hT⟩ : ∃ T, tyR (0, 0) = T := ⟨_, rfl⟩
  rw [hT] at HQ HV
  have l0 : T.length = 7 := by rw [← hT]; rfl
  have l1 : T.toArray.all (·.oneCell') = true := by rw [← hT]; simp [tyR, Value.oneCell']
  have hsz : (Tryd.prog.info? 43).map (·.size) = some T.length := by rw [l0]; exact szTok
  have hsz2 : (Tryd.prog.info? 43).map (·.size) = some T.toArray.size := by rw [List.size_toArray]; exact hsz
  obtain ⟨du, hu, hu2⟩ := tyTok
  have HU := Lib.hid hu
  have HSZ := Lib.hid hsz
  have HSZ2 := Lib.hid hsz2
  have HL := Lib.hid (And.intro l0 l1)
  have HTT := Lib.hid hT
  clear hu hsz hsz2 l0 l1 hT
  obtain ⟨g, hg⟩ : ∃ g, w.heap.size = g := ⟨_, rfl⟩
  rw [hg] at HQ HG ⊢
  have HWG := Lib.hid hg
  clear hg
  have hs : ∀ k, k < 4 → ∀ W : World, W.there g 0 28 → W.there g (k * 7) T.toArray.size := fun k hk W h => th_sub h (by omega) (by rw [List.size_toArray, HL.out.1]; omega)
  have HS := Lib.hid hs
  clear hs
  have HT0 := Lib.hid (HS.out 0 (by omega) wc HQ.out.2.1)
  go_upto_region 9 with (first | (refine wpList_load_mid rfl 43 _ rfl v 0 rfl T du HV.out HU.out hu2 HSZ.out ?_) | (refine wpList_store_mid rfl 43 _ _ rfl g 0 T.toArray rfl rfl HT0.out HSZ2.out HL.out.2 ?_))
  have hq1 : QE g 1 T w (wc.setCells g 0 T) := HQ.out.put HL.out.1 (by omega) (Nat.le_of_eq HWG.out)
  change Code.wp _ _ _ _ (World.setCells wc g 0 T)
  clear HQ HV HT0
  generalize World.setCells wc g 0 T = w2 at *
  have HQ1 := Lib.hid hq1
  have HR1 := Lib.hid (show w2.rangeAt g 0 T from hq1.1 0 (by omega))
  have HT1 := Lib.hid (show w2.there g 7 T.toArray.size from HS.out 1 (by omega) w2 hq1.2.1)
  clear hq1
  go_upto_region 12 with (first | (refine wpList_load_mid rfl 43 _ rfl g 0 rfl T du HR1.out HU.out hu2 HSZ.out ?_) | (refine wpList_store_mid rfl 43 _ _ rfl g 7 T.toArray rfl rfl HT1.out HSZ2.out HL.out.2 ?_))
  have hq2 : QE g 2 T w (w2.setCells g 7 T) := HQ1.out.put HL.out.1 (by omega) (Nat.le_of_eq HWG.out)
  change Code.wp _ _ _ _ (World.setCells w2 g 7 T)
  clear HQ1 HR1 HT1
  generalize World.setCells w2 g 7 T = w3 at *
  have HQ2 := Lib.hid hq2
  have HR2 := Lib.hid (show w3.rangeAt g 0 T from hq2.1 0 (by omega))
  have HT2 := Lib.hid (show w3.there g 14 T.toArray.size from HS.out 2 (by omega) w3 hq2.2.1)
  clear hq2
  go_upto_region 15 with (first | (refine wpList_load_mid rfl 43 _ rfl g 0 rfl T du HR2.out HU.out hu2 HSZ.out ?_) | (refine wpList_store_mid rfl 43 _ _ rfl g 14 T.toArray rfl rfl HT2.out HSZ2.out HL.out.2 ?_))
  have hq3 : QE g 3 T w (w3.setCells g 14 T) := HQ2.out.put HL.out.1 (by omega) (Nat.le_of_eq HWG.out)
  change Code.wp _ _ _ _ (World.setCells w3 g 14 T)
  clear HQ2 HR2 HT2
  generalize World.setCells w3 g 14 T = w4 at *
  have HQ3 := Lib.hid hq3
  have HR3 := Lib.hid (show w4.rangeAt g 7 T from hq3.1 1 (by omega))
  have HT3 := Lib.hid (show w4.there g 21 T.toArray.size from HS.out 3 (by omega) w4 hq3.2.1)
  clear hq3
  go_upto_region 18 with (first | (refine wpList_load_mid rfl 43 _ rfl g 7 rfl T du HR3.out HU.out hu2 HSZ.out ?_) | (refine wpList_store_mid rfl 43 _ _ rfl g 21 T.toArray rfl rfl HT3.out HSZ2.out HL.out.2 ?_))
  have hq4 : QE g 4 T w (w4.setCells g 21 T) := HQ3.out.put HL.out.1 (by omega) (Nat.le_of_eq HWG.out)
  change Code.wp _ _ _ _ (World.setCells w4 g 21 T)
  clear HQ3 HR3 HT3
  generalize World.setCells w4 g 21 T = w5 at *
  have HQ4 := Lib.hid (show QE g 4 (tyR (0, 0)) w w5 by rw [HTT.out]; exact hq4)
  clear hq4
  go_wp2_with fail
  obtain ⟨dq, hq1, hq2⟩ := tyQt
  exact bodyPost_ret (results_cell_mid2 rfl _ _ g 0 q28 dq rfl (q28_of HQ4.out) hq1 hq2 szQt) rfl ⟨rfl, HQ4.out.2.2⟩
theorem z28_rg (w : World) (t : TypeId) : (w.alloc (.cells z28.toArray t)).rangeAt w.heap.size 0 z28 := rg_new w z28.toArray t
set_option maxRecDepth 100000 in
set_option maxHeartbeats 4000000 in
theorem eq_bad (al : Option Addr) (m c : Nat) (aa : Bool) (T : Nat → ByteArray) (K : Nat → Int) (w : World) (hal : ∀ i, i < m → ∃ g, al = some ⟨g, 0, none⟩) (hT : ∀ g, al = some ⟨g, 0, none⟩ → TL w g m T K)
    (hm : (m : Int) ≤ 65536) (hr : refused aa m T K) :
    Calls Tryd.prog 20 #[.slice al m c, .string (aI aa)] w fun e w' => e = .returned (.tuple #[.agg z28.toArray, .bool false]) ∧ Below w.heap.size w w' := by
  have hb : Below w.heap.size w (w.alloc (.cells z28.toArray 74)) := (Below.refl _ _).alloc (Nat.le_refl _) _
  have hz := z28_rg w 74
  have HB := Lib.hid (And.intro hb hz)
  have HR := Lib.hid hr
  have HT := Lib.hid (And.intro hal hT)
  clear hb hz hr hal hT
  obtain ⟨dq, hq1, hq2⟩ := tyQt
  have HQT := Lib.hid hq1
  clear hq1
  go_enter Tryd.func20, Tryd.ntmps20
  go_upto_region 1 with (first | (refine wpl_alloc rfl 74 rfl _ _ (run_al28 w) ?_))
  generalize World.alloc w _ = w1 at *
  by_cases m1 : (m : Int) < 1
  · go_wp2_with fail
    exact bodyPost_ret (results_cell_mid2 rfl _ _ w.heap.size 0 z28 dq rfl HB.out.2 HQT.out hq2 szQt) rfl ⟨rfl, HB.out.1⟩
  by_cases m4 : (4 : Int) < m
  · go_wp2_with fail
    exact bodyPost_ret (results_cell_mid2 rfl _ _ w.heap.size 0 z28 dq rfl HB.out.2 HQT.out hq2 szQt) rfl ⟨rfl, HB.out.1⟩
  have HR2 : Hid (∃ i, i < m ∧ ¬ good aa T K i) := Lib.hid (by rcases HR.out with h | h | h; exact absurd h (by omega); exact absurd h (by omega); exact h)
  clear HR
  go_wp2_with fail
  go_loopw [7] (fun iv wr => ∃ k : Nat, k ≤ m ∧ iv = .int .i64 k ∧ Hid (∀ i, i < k → good aa T K i) ∧ Hid (Below w.heap.size w wr ∧ wr.rangeAt w.heap.size 0 z28)) (fun iv _ => m - (intOf iv).toNat)
  case atStart => exact ⟨0, by omega, rfl, Lib.hid (fun i hi => absurd hi (by omega)), HB⟩
  case round =>
    clear HB
    obtain ⟨k, hk, rfl, HG, HW⟩ := hrel
    by_cases hlt : k < m
    case neg =>
      exfalso
      obtain ⟨i, hi, h⟩ := HR2.out
      exact h (HG.out i (by omega))
    have q0 : (0 : Int) ≤ k := by omega
    have q1 : (k : Int) < m := by omega
    obtain ⟨g, hg⟩ := HT.out.1 k hlt
    have hr := ((HT.out.2 g hg).keep HW.out.1) k hlt
    have hgl : g < w.heap.size := rg_lt ((HT.out.2 g hg) k hlt) (by simp [tkG])
    subst hg
    have t0 : wr.cell? ⟨g, k * 7, none⟩ = some (.pointer none) := hr 0 _ rfl
    have t1 : wr.cell? ⟨g, k * 7 + 1, none⟩ = some (.string (T k)) := hr 1 _ rfl
    have t2 : wr.cell? ⟨g, k * 7 + 2, none⟩ = some (.int .i32 0) := hr 2 _ rfl
    have t3 : wr.cell? ⟨g, k * 7 + 3, none⟩ = some (.int .u32 0) := hr 3 _ rfl
    have t4 : wr.cell? ⟨g, k * 7 + 4, none⟩ = some (.int .u16 0) := hr 4 _ rfl
    have t5 : wr.cell? ⟨g, k * 7 + 5, none⟩ = some (.int .u8 (K k)) := hr 5 _ rfl
    have t6 : wr.cell? ⟨g, k * 7 + 6, none⟩ = some (.int .u8 0) := hr 6 _ rfl
    have HN : ∀ o : Obj, Hid (Below w.heap.size w (wr.alloc o) ∧ (wr.alloc o).rangeAt w.heap.size 0 z28) := fun o => Lib.hid ⟨HW.out.1.alloc HW.out.1.size o, World.rangeAt_alloc HW.out.2 o⟩
    obtain ⟨nb, hnb⟩ : ∃ b, decide (K k = 30 ∨ K k = 34 ∨ K k = 26) = b := ⟨_, rfl⟩
    have hnu := fun W => nu_any (K k) nb (by rw [← hnb]; exact decide_eq_true_iff) W
    have HNU := Lib.hid hnu
    have HGK : Hid (nb = true → good aa T K k) := Lib.hid fun e => by
      rw [e] at hnb
      have := of_decide_eq_true hnb
      unfold good
      rcases this with h | h | h
      · exact .inl h
      · exact .inr (.inl h)
      · exact .inr (.inr (.inl h))
    have HIG : Hid (K k = 29 → aa = true → (T k).toList = auto_.toList → good aa T K k) := Lib.hid fun h1 h2 h3 => .inr (.inr (.inr ⟨h1, h2, h3⟩))
    have hnext : good aa T K k → Hid (∀ i, i < k + 1 → good aa T K i) := fun h => Lib.hid fun i hi => by
      by_cases e : i = k
      · rw [e]; exact h
      · exact HG.out i (by omega)
    have HNX := Lib.hid hnext
    obtain ⟨y, hy⟩ : ∃ y, K k = y := ⟨_, rfl⟩
    obtain ⟨tx, htx⟩ : ∃ t, T k = t := ⟨_, rfl⟩
    rw [hy] at t5 HNU HIG
    rw [htx] at t1 HIG
    clear hr hnb hnu hnext hy htx
    cases nb with
    | true =>
      have HG2 := HNX.out (HGK.out rfl)
      clear HG HGK HIG HNX
      go_wp2_with (first | (go_at_call 21; refine (HNU.out _).mono ?_; rintro e wk ⟨rfl, hwk⟩; rw [hwk]; clear hwk))
      exact ⟨⟨k + 1, by omega, by go_num, HG2, HN _⟩, by simp [intOf]; omega⟩
    | false =>
      clear HGK
      by_cases h29 : y = 29
      · subst h29
        cases aa with
        | false =>
          have e : aI false = ⟨#[]⟩ := rfl
          rw [e]
          clear HIG e
          go_wp2_with (first | (go_at_call 21; refine (HNU.out _).mono ?_; rintro e wk ⟨rfl, hwk⟩; rw [hwk]; clear hwk))
          exact bodyPost_ret (results_cell_mid2 rfl _ _ w.heap.size 0 z28 dq rfl (HN _).out.2 HQT.out hq2 szQt) rfl ⟨rfl, (HN _).out.1⟩
        | true =>
          have e : aI true = ⟨#[97, 117, 116, 111]⟩ := rfl
          rw [e]
          clear e
          by_cases hat : tx.toList = (⟨#[97, 117, 116, 111]⟩ : ByteArray).toList
          · have HG2 := HNX.out (HIG.out rfl rfl hat)
            have xat : (tx.toList == [97, 117, 116, 111]) = true := by rw [beq_iff_eq, hat]; exact auto_list
            clear HIG HNX HG hat
            go_wp2_with (first | (go_at_call 21; refine (HNU.out _).mono ?_; rintro e wk ⟨rfl, hwk⟩; rw [hwk]; clear hwk))
            exact ⟨⟨k + 1, by omega, by go_num, HG2, HN _⟩, by simp [intOf]; omega⟩
          · have xat : (tx.toList == [97, 117, 116, 111]) = false := beq_eq_false_iff_ne.mpr (fun h => hat (h.trans auto_list.symm))
            clear HIG HNX HG hat
            go_wp2_with (first | (go_at_call 21; refine (HNU.out _).mono ?_; rintro e wk ⟨rfl, hwk⟩; rw [hwk]; clear hwk))
            exact bodyPost_ret (results_cell_mid2 rfl _ _ w.heap.size 0 z28 dq rfl (HN _).out.2 HQT.out hq2 szQt) rfl ⟨rfl, (HN _).out.1⟩
      · have x29 : (y == 29) = false := beq_eq_false_iff_ne.mpr h29
        clear HIG
        go_wp2_with (first | (go_at_call 21; refine (HNU.out _).mono ?_; rintro e wk ⟨rfl, hwk⟩; rw [hwk]; clear hwk))
        exact bodyPost_ret (results_cell_mid2 rfl _ _ w.heap.size 0 z28 dq rfl (HN _).out.2 HQT.out hq2 szQt) rfl ⟨rfl, (HN _).out.1⟩
end Go.Proofs.YtnihlfldlkkobaaDoor.Bx
