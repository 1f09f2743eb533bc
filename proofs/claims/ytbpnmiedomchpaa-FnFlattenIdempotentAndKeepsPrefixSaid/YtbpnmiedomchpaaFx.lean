/-
  The walk through the writing out of a subclass selector.
-/
import Derived.Test.YtbpnmiedomchpaaFw
namespace Go.Proofs.Ytbpnmiedomchpaa.Fg
open Go.ChangeShapes Go.WideShapes Go.ChangeAt Go.RowKit Rg
set_option linter.unusedVariables false
set_option linter.unusedSimpArgs false
theorem drop_flat {α : Type} (f : α → List UInt8) (L : List α) (k : Nat) (hk : k < L.length) : (L.drop k).flatMap f = f L[k] ++ (L.drop (k + 1)).flatMap f := by
  rw [List.drop_eq_getElem_cons hk, List.flatMap_cons]
theorem flat_ge {α : Type} (f : α → List UInt8) (h : ∀ x, 1 ≤ (f x).length) : ∀ L : List α, L.length ≤ (L.flatMap f).length
  | [] => Nat.zero_le _
  | x :: r => by rw [List.flatMap_cons, List.length_append, List.length_cons]; have := flat_ge f h r; have := h x; omega
theorem encM_pos (M : List (Cp ByteArray)) : 1 ≤ (encM M).length := by unfold encM; simp
theorem encI_pos (c : Cp ByteArray) : 1 ≤ (encI c).length := by unfold encI; simp
theorem encN_pos (n : ByteArray) : 1 ≤ (encN n).length := by unfold encN; simp
theorem En.rest {T r : List UInt8} {w W : World} {va : Option Addr} {N vc : Nat} (h : En T w va N vc r W) : r.length ≤ T.length := by
  obtain ⟨l, h1, h2, -, -⟩ := h
  rw [h2, List.length_append]; omega
theorem setCells_kind {t : TypeId} {f : Nat × Nat} (b : Nat) : ∀ (vs : List Value) (o : Nat) (W : World) (ob : Array Value), W.heap[b]? = some (.cells ob t f) → ∃ ob', (W.setCells b o vs).heap[b]? = some (.cells ob' t f)
  | [], _, _, ob, h => ⟨ob, h⟩
  | v :: r, o, W, ob, h => setCells_kind b r (o + 1) (W.setCell ⟨b, o, none⟩ v) (ob.setIfInBounds o v) (by simp [World.setCell, Array.getElem?_modify, h])
theorem cbB_u8 {c : Nat} (h : c < 256) : ((UInt8.ofNat (cbB c)).toNat : Int) = (cbB c : Nat) := by
  have : cbB c < 256 := by unfold cbB; split <;> omega
  rw [UInt8.toNat_ofNat', Nat.mod_eq_of_lt (by omega)]
theorem drop_end {α : Type} (f : α → List UInt8) (L : List α) (k : Nat) (hk : k = L.length) : (L.drop k).flatMap f = [] := by
  rw [List.drop_of_length_le (by omega)]; rfl
set_option maxRecDepth 100000 in
set_option maxHeartbeats 8000000 in
theorem esb_any (X : Nat → Prop) (x : Value) (su : Su) (w : World) (hX : ∀ b, X b → b < w.heap.size) (h : e1 X w x su) (hq : QS su) : Calls Try.prog 31 #[.agg (sbc x).toArray] w (fun e w' => e = .returned (.string ⟨(encS su).toArray⟩) ∧ Below w.heap.size w w') := by
  obtain ⟨TI, pI, hxI⟩ := e1_form h
  obtain ⟨tS, hS1, hS2⟩ := tySub
  obtain ⟨tC, hC, hC2⟩ := tyCmp
  have HX := Lib.hid (And.intro h (And.intro hX hq))
  have hone : (sbc x).toArray.all (·.oneCell') = true := sub_all _ (by rw [hxI]; rfl)
  clear h hX hq hxI
  go_enter Try.func31, Try.ntmps31
  go_upto_region 1 with fail
  have hb1 : Below w.heap.size w (w.alloc (.cells (sbc x).toArray 119)) := (Below.refl _ _).alloc (Nat.le_refl _) _
  have hr1 := rg_new w (sbc x).toArray 119
  generalize w.alloc _ = w1 at *
  obtain ⟨b1, hbq1⟩ : ∃ b, b = w.heap.size := ⟨_, rfl⟩
  rw [← hbq1] at hr1 ⊢
  have hX1 : ∀ b, X b → b < w1.heap.size := fun b h => Nat.lt_of_lt_of_le (HX.out.2.1 b h) hb1.size
  have HBN := Lib.hid (bn_any X x su w1 hX1 (loc1 _ _ _ _ _ _ (To.below HX.out.2.1 hb1) HX.out.1))
  have HR1 := Lib.hid hr1
  have HB1 := Lib.hid hb1
  clear hr1 hbq1 hX1 hb1
  go_wp2_with (refine wpList_load_mid rfl 119 _ rfl b1 0 rfl (sbc x) tS HR1.out hS1 hS2 szSub ?_)
  refine HBN.out.mono ?_
  rintro e w2 ⟨rfl, hb2⟩
  have HB2 := Lib.hid (HB1.out.trans (hb2.mono HB1.out.size))
  have HR2 := Lib.hid (rg_keep hb2 HR1.out)
  clear hb2 HBN HR1 HB1
  cases su with
  | bare n =>
    as_aux_lemma =>
    unfold bnV
    have hsz : ¬ (9223372036854775807 < 1 + n.size) := by
      have h1 := HX.out.2.2.1
      have h2 : (encS (.bare n)).length = n.data.toList.length + 1 := rfl
      have h3 : n.size = n.data.toList.length := by rw [Array.length_toList]; rfl
      omega
    go_wp2_with fail
    go_ret
    refine ⟨?_, HB2.out⟩
    have h2 : (⟨#[46]⟩ : ByteArray) ++ n = ⟨(encS (.bare n)).toArray⟩ := by
      show _ = (⟨(46 :: n.data.toList).toArray⟩ : ByteArray)
      apply ByteArray.ext
      apply Array.ext'
      simp
    rw [← h2]
    rfl
  | wrap k Ms =>
    as_aux_lemma =>
    unfold bnV
    obtain ⟨T, hT⟩ : ∃ T, T = encS (.wrap k Ms) := ⟨_, rfl⟩
    have hTl : T.length ≤ 33554432 := by rw [hT]; exact HX.out.2.2.1
    have HT := Lib.hid hT
    have hX2 : ∀ b, X b → b < w2.heap.size := fun b h => Nat.lt_of_lt_of_le (HX.out.2.1 b h) HB2.out.size
    have HWO := Lib.hid (wo_any X x k Ms w2 hX2 (loc1 _ _ _ _ _ _ (To.below HX.out.2.1 HB2.out) HX.out.1))
    clear hX2 hT
    go_upto_region 4 with fail
    go_wp2_with (refine wpList_load_mid rfl 119 _ rfl b1 0 rfl (sbc x) tS HR2.out hS1 hS2 szSub ?_)
    refine HWO.out.mono ?_
    rintro e w3 ⟨v, rfl, hM, hb3⟩
    obtain ⟨m, hm⟩ : ∃ m, m = Ms.length := ⟨_, rfl⟩
    obtain ⟨ma, mc, rfl⟩ := RW.slice hM
    have hMw : MdV e0 X w (.slice ma Ms.length mc) Ms := hM.to loc0 (fun b hb => ⟨hb, (HB2.out.block b (HX.out.2.1 b hb)).symm⟩)
    have hm4 : m ≤ 33554432 := by
      have h1 := flat_ge encM encM_pos Ms
      have h2 : T.length = (119 :: ((kdS k).data.toList ++ Ms.flatMap encM)).length := by rw [HT.out]; rfl
      rw [List.length_cons, List.length_append] at h2
      omega
    rw [← hm] at hMw ⊢
    have HM := Lib.hid (And.intro hMw hm)
    have HB3 := Lib.hid (HB2.out.trans (hb3.mono HB2.out.size))
    clear hM hb3 hMw hm HWO HR2 HB2
    as_aux_lemma =>
    go_upto_region 7 with fail
    have hbs := bs_u8 119 w3
    have ho4 := own_new w3 [.int .u8 119] 1 rfl (by unfold maxLen; omega)
    have hb4 : Below w3.heap.size w3 (w3.alloc (.cells #[.int .u8 119] 5)) := (Below.refl _ _).alloc (Nat.le_refl _) _
    obtain ⟨w4, hw4⟩ : ∃ x, x = w3.alloc (.cells #[.int .u8 119] 5) := ⟨_, rfl⟩
    have ho4' : w4.ownsRow w3.heap.size 5 1 (.slice (some ⟨w3.heap.size, 0, none⟩) 1 1) 1 [.int .u8 119] := by rw [hw4]; exact ho4
    rw [← hw4] at hbs hb4
    have HE0 := Lib.hid (show En T w (some ⟨w3.heap.size, 0, none⟩) 1 1 ((kdS k).data.toList ++ Ms.flatMap encM) w4 from ⟨[119], rfl, HT.out, own_mono ho4' HB3.out.size, HB3.out.trans (hb4.mono HB3.out.size)⟩)
    generalize w3.heap.size = g4 at *
    clear ho4 ho4' hb4 hw4 HB3
    go_upto_region 8 with (refine wpl_bs1 ?hgd 22 (.const (.int .u8 119)) ?hoq (.int .u8 119) (.slice (some ⟨g4, 0, none⟩) 1 1) w4 ?hxq ?hrq ?_; (case hoq => rfl); (case hgd => rfl); (case hrq => exact hbs); (case hxq => rfl))
    go_wp2_with fail
    refine (kdg_any k w4).mono ?_
    rintro e w5 ⟨rfl, rfl⟩
    go_upto_block 0 with (at_builtin
                          refine wpl_pushS rfl (.tmp 32) (.tmp 34) rfl (kdS k) HE0.out hTl rfl rfl ?_
                          intro va N vc W8 hE8 hG8
                          have HE8 := Lib.hid hE8
                          clear hE8 hG8)
    clear HE0 hbs
    refine wp_block ?_
    go_loopw [8, 9] (fun bv iv wr => ∃ (i : Nat) (va : Option Addr) (N vc : Nat), i ≤ m ∧ bv = .slice va N vc ∧ iv = .int .i64 i ∧ Hid (En T w va N vc ((Ms.drop i).flatMap encM) wr)) (fun _ iv _ => m - (intOf iv).toNat)
    case atStart => exact ⟨0, va, N, vc, Nat.zero_le _, rfl, rfl, HE8⟩
    case round =>
      clear HE8
      obtain ⟨i, va, N, vc, hi, rfl, rfl, HR⟩ := hrel
      by_cases hlt : i < m
      · as_aux_lemma =>
        have q0 : (0 : Int) ≤ i := by omega
        have q1 : (i : Int) < m := by omega
        have iL : i < Ms.length := by have := HM.out.2; omega
        obtain ⟨g, o, c, xm, hve, hXg, hrg, hxm⟩ := RW.at HM.out.1 iL
        simp only [Value.slice.injEq] at hve
        obtain ⟨rfl, hz, rfl⟩ := hve
        clear hz
        obtain ⟨n2, hn2⟩ : ∃ n, n = Ms[i].length := ⟨_, rfl⟩
        obtain ⟨a2, c2, rfl⟩ := RW.slice hxm
        rw [← hn2] at hxm hrg
        obtain ⟨r1, hr1⟩ : ∃ r, r = (Ms.drop (i + 1)).flatMap encM := ⟨_, rfl⟩
        have HE1 := Lib.hid (show En T w va N vc (124 :: (Ms[i].flatMap encI ++ r1)) wr by
          have h := HR.out
          rw [drop_flat encM Ms i iL, ← hr1] at h
          exact h)
        have hn4 : n2 ≤ 33554432 := by
          have h1 := flat_ge encI encI_pos Ms[i]
          have h2 := HE1.out.rest
          rw [List.length_cons, List.length_append] at h2
          omega
        have hcell : ∀ W, Below w.heap.size w W → W.cell? ⟨g, o + i, none⟩ = some (.slice a2 n2 c2) := fun W hb => by
          have := cell_ag (hb.block g (HX.out.2.1 g hXg)) (hrg 0 _ rfl)
          rwa [Nat.mul_one, Nat.add_zero] at this
        have HMI := Lib.hid (And.intro hxm (And.intro hn2 (And.intro hcell hr1)))
        clear hxm hn2 hcell hrg hXg hr1 HR
        go_upto_block 2 with (refine wpl_push1 ?hgd ?hge (.const (.int .u8 124)) (.tmp 42) (.tmp 43) ?hoq ?hor 124 HE1.out hTl ?hxq ?hss ?hyy ?_
                              case hoq => rfl
                              case hor => rfl
                              case hgd => rfl
                              case hge => rfl
                              case hxq => kernel_rfl
                              case hss => (intro q; rfl)
                              case hyy => (intro q; rfl)
                              intro q8 va N vc W8 hE8 hG8
                              have HE8 := Lib.hid hE8
                              clear hE8 hG8)
        clear HE1
        refine wp_block ?_
        go_loopw [8, 10] (fun bv iv wr => ∃ (j : Nat) (va : Option Addr) (N vc : Nat), j ≤ n2 ∧ bv = .slice va N vc ∧ iv = .int .i64 j ∧ Hid (En T w va N vc ((Ms[i].drop j).flatMap encI ++ r1) wr)) (fun _ iv _ => n2 - (intOf iv).toNat)
        case atStart => exact ⟨0, va, N, vc, Nat.zero_le _, rfl, rfl, HE8⟩
        case round =>
          clear HE8
          obtain ⟨j, va, N, vc, hj, rfl, rfl, HR⟩ := hrel
          have e1 := HMI.out.2.2.1 wr HR.out.bel
          by_cases hlj : j < n2
          · skip
            -- <J1
            as_aux_lemma =>
            have z0 : (0 : Int) ≤ j := by omega
            have z1 : (j : Int) < n2 := by omega
            have jL : j < Ms[i].length := by have := HMI.out.2.1; omega
            obtain ⟨g2, o2, c3, tv, sa, sc, la, lc, hve, hXg2, hrg2, hcp⟩ := CxV.at HMI.out.1 jL
            simp only [Value.slice.injEq] at hve
            obtain ⟨rfl, hz, rfl⟩ := hve
            clear hz
            have hne : Ms[i][j].nest ≤ 65535 := HX.out.2.2.2 _ (List.getElem_mem iL) _ (List.getElem_mem jL)
            obtain ⟨cc, hcc⟩ : ∃ c, c = Ms[i][j] := ⟨_, rfl⟩
            rw [← hcc] at hrg2 hcp hne
            obtain ⟨nS, hnS⟩ : ∃ n, n = cc.subs.length := ⟨_, rfl⟩
            obtain ⟨nl, hnl⟩ : ∃ n, n = cc.nest := ⟨_, rfl⟩
            obtain ⟨cb, hcb⟩ : ∃ n, n = cc.cb := ⟨_, rfl⟩
            obtain ⟨we, hwe⟩ : ∃ n, n = cc.we := ⟨_, rfl⟩
            rw [← hnS, ← hnl, ← hcb, ← hwe] at hrg2 hcp
            obtain ⟨pt, hpt⟩ := Pty.ptr hcp.1.pty
            dsimp only at hpt
            subst hpt
            have hall := cpv_all hcp
            have hcb8 : cb < 256 := by rw [hcb]; exact hcp.2.2.2.2.2
            obtain ⟨r2, hr2⟩ : ∃ r, r = (Ms[i].drop (j + 1)).flatMap encI ++ r1 := ⟨_, rfl⟩
            have hE1 : En T w va N vc (40 :: UInt8.ofNat (cbB cb) :: (encT cc.tp ++ (35 :: (dg nl ++ (cc.subs.flatMap encN ++ (41 :: r2)))))) wr := by
              have h := HR.out
              rw [drop_flat encI Ms[i] j jL, ← hcc] at h
              have e : encI cc ++ (Ms[i].drop (j + 1)).flatMap encI ++ r1 = 40 :: UInt8.ofNat (cbB cb) :: (encT cc.tp ++ (35 :: (dg nl ++ (cc.subs.flatMap encN ++ (41 :: r2))))) := by
                rw [hr2, hcb, hnl]
                unfold encI
                simp [List.append_assoc]
              rw [e] at h
              exact h
            have HR2 := Lib.hid (rg_ag (HR.out.bel.block g2 (HX.out.2.1 g2 hXg2)) hrg2)
            have HCC := Lib.hid (And.intro hcp (And.intro hnS (And.intro hnl (And.intro hne hr2))))
            have HALL := Lib.hid hall
            have HEE := Lib.hid hE1
            clear hcp hnS hnl hne hr2 hcb hwe hcc hrg2 hXg2 hall hE1 HR
            go_upto_region 17 with (first
              | (refine wpList_load_mid ?hgd 37 (.tmp 61) ?hoq g2 (o2 + j * 6) ?hpa (Cv.cells ⟨.pointer pt, .slice sa nS sc, .slice la nl lc, cb, we⟩) tC ?hrq hC hC2 szCmp ?_
                 case hoq => rfl
                 case hgd => rfl
                 case hpa => first | rfl | simp
                 case hrq => exact HR2.out)
              | (refine wpList_store_mid ?hgd 37 (.tmp 11) (.tmp 62) ?hoq wr.heap.size 0 (Cv.cells ⟨.pointer pt, .slice sa nS sc, .slice la nl lc, cb, we⟩).toArray ?hpa ?hxq ?hrq szCmp ?hlq ?_
                 case hoq => rfl
                 case hgd => rfl
                 case hpa => rfl
                 case hxq => rfl
                 case hrq => exact th_new wr _ _ rfl
                 case hlq => exact HALL.out))
            have hbS : Below wr.heap.size wr ((wr.alloc (.cells #[.pointer none, .slice none 0 0, .slice none 0 0, .int .i32 0, .int .u8 0, .bool false] 37)).setCells wr.heap.size 0 (Cv.cells ⟨.pointer pt, .slice sa nS sc, .slice la nl lc, cb, we⟩)) := below_setCells (Nat.le_refl _) _ _ ((Below.refl _ _).alloc (Nat.le_refl _) _)
            have hrS : ((wr.alloc (.cells #[.pointer none, .slice none 0 0, .slice none 0 0, .int .i32 0, .int .u8 0, .bool false] 37)).setCells wr.heap.size 0 (Cv.cells ⟨.pointer pt, .slice sa nS sc, .slice la nl lc, cb, we⟩)).rangeAt wr.heap.size 0 (Cv.cells ⟨.pointer pt, .slice sa nS sc, .slice la nl lc, cb, we⟩) := World.rangeAt_setCells_same _ _ _ _ (th_new wr _ _ rfl)
            obtain ⟨ob, hob⟩ := setCells_kind wr.heap.size (Cv.cells ⟨.pointer pt, .slice sa nS sc, .slice la nl lc, cb, we⟩) 0 (wr.alloc (.cells #[.pointer none, .slice none 0 0, .slice none 0 0, .int .i32 0, .int .u8 0, .bool false] 37)) _ (heap_alloc_new wr _)
            generalize World.setCells _ _ _ _ = w7 at *
            generalize wr.heap.size = b11 at hrS hob ⊢
            have HE7 := Lib.hid (HEE.out.keep hbS)
            have HB7 := Lib.hid (And.intro hrS hob)
            have l4 := hrS 4 _ rfl
            simp only [Nat.zero_add] at l4
            have hcu := cbB_u8 hcb8
            clear hbS hrS hob HEE HR2 HALL e1 hone
            as_aux_lemma =>
            go_wp2_with fail
            refine (cmb_any cb w7).mono ?_
            rintro e w8 ⟨rfl, rfl⟩
            go_upto_if 72 with (refine wpl_push2 ?hgd ?hge (.const (.int .u8 40)) (.tmp 67) (.tmp 63) (.tmp 68) ?hoq ?hor 40 (UInt8.ofNat (cbB cb)) HE7.out hTl ?hxq ?hxr ?hss ?hyy ?_
                                case hoq => rfl
                                case hor => rfl
                                case hgd => rfl
                                case hge => rfl
                                case hxq => kernel_rfl
                                case hxr => (rw [hcu]; rfl)
                                case hss => (intro q; rfl)
                                case hyy => (intro q; rfl)
                                intro q8 va N vc W8 hE8 hG8
                                have hbk := HE7.out.box hG8 (by decide) HB7.out.2
                                have hrk := rg_ag (hbk.trans HB7.out.2.symm) HB7.out.1
                                have HE8 := Lib.hid hE8
                                have l0 := hrk 0 _ rfl
                                simp only [Nat.zero_add] at l0
                                have HB8 := Lib.hid (And.intro hrk hbk)
                                clear hE8 hG8 hbk hrk)
            clear HE7 HB7 l4 hcu
            obtain ⟨R3, hR3⟩ : ∃ R, R = 35 :: (dg nl ++ (cc.subs.flatMap encN ++ (41 :: r2))) := ⟨_, rfl⟩
            rw [← hR3] at HE8
            go_cut [8] (fun bv wx => ∃ (va : Option Addr) (N vc : Nat), bv = .slice va N vc ∧ Hid (En T w va N vc R3 wx ∧ wx.rangeAt b11 0 (Cv.cells ⟨.pointer pt, .slice sa nS sc, .slice la nl lc, cb, we⟩) ∧ wx.heap[b11]? = some (.cells ob 37 (0, 0))))
            case first =>
              have hty := HCC.out.1.1
              obtain ⟨ot, hot⟩ : ∃ t, t = cc.tp := ⟨_, rfl⟩
              rw [← hot] at hty HE8
              have HBB := HB8
              clear HCC hR3 hot HB8
              cases ot with
              | none =>
                as_aux_lemma =>
                have htv : Value.pointer pt = .pointer none := hty
                simp only [Value.pointer.injEq] at htv
                subst htv
                have HEt := Lib.hid (show En T w va N vc (45 :: R3) _ from HE8.out)
                clear HE8
                go_wp2_with (refine wpl_push1 ?hgd ?hge (.const (.int .u8 45)) (.tmp 73) (.tmp 74) ?hoq ?hor 45 HEt.out hTl ?hxq ?hss ?hyy ?_
                             case hoq => rfl
                             case hor => rfl
                             case hgd => rfl
                             case hge => rfl
                             case hxq => kernel_rfl
                             case hss => (intro q; rfl)
                             case hyy => (intro q; rfl)
                             intro q8 va N vc W8 hE8 hG8
                             have hbk := HEt.out.box hG8 (by decide) HBB.out.2
                             have hrk := rg_ag (hbk.trans HBB.out.2.symm) HBB.out.1
                             have HE8 := Lib.hid hE8
                             have HB8 := Lib.hid (And.intro hrk hbk)
                             clear hE8 hG8 hbk hrk)
                go_meet
                exact ⟨_, _, _, rfl, Lib.hid ⟨HE8.out, HB8.out⟩⟩
              | some t =>
                as_aux_lemma =>
                obtain ⟨p, htv, hXp, hrp⟩ := hty
                have htv2 : Value.pointer pt = .pointer (some ⟨p, 0, none⟩) := htv
                simp only [Value.pointer.injEq] at htv2
                subst htv2
                have lt := rg_ag (HE8.out.bel.block p (HX.out.2.1 p hXp)) hrp 1 _ rfl
                simp only [Nat.zero_add] at lt
                have HEt := Lib.hid (show En T w va N vc (t.data.toList ++ R3) _ from HE8.out)
                clear hrp hXp htv HE8
                go_wp2_with (at_builtin
                             refine wpl_pushS rfl (.tmp 76) (.tmp 82) rfl t HEt.out hTl rfl rfl ?_
                             intro va N vc W8 hE8 hG8
                             have hbk := HEt.out.box hG8 (by decide) HBB.out.2
                             have hrk := rg_ag (hbk.trans HBB.out.2.symm) HBB.out.1
                             have HE8 := Lib.hid hE8
                             have HB8 := Lib.hid (And.intro hrk hbk)
                             clear hE8 hG8 hbk hrk)
                go_meet
                exact ⟨_, _, _, rfl, Lib.hid ⟨HE8.out, HB8.out⟩⟩
            case rest =>
            clear HE8 HB8
            obtain ⟨va, N, vc, rfl, HQ⟩ := hcut
            have HE9 := Lib.hid (show En T w va N vc (35 :: (dg nl ++ (cc.subs.flatMap encN ++ (41 :: r2)))) wc by rw [← hR3]; exact HQ.out.1)
            have HB9 := Lib.hid HQ.out.2
            clear HQ hR3
            as_aux_lemma =>
            go_upto_region 22 with (refine wpl_push1 ?hgd ?hge (.const (.int .u8 35)) (.tmp 84) (.tmp 85) ?hoq ?hor 35 HE9.out hTl ?hxq ?hss ?hyy ?_
                                    case hoq => rfl
                                    case hor => rfl
                                    case hgd => rfl
                                    case hge => rfl
                                    case hxq => kernel_rfl
                                    case hss => (intro q; rfl)
                                    case hyy => (intro q; rfl)
                                    intro q8 va N vc W8 hE8 hG8
                                    have hbk := HE9.out.box hG8 (by decide) HB9.out.2
                                    have hrk := rg_ag (hbk.trans HB9.out.2.symm) HB9.out.1
                                    have l2 := hrk 2 _ rfl
                                    simp only [Nat.zero_add] at l2
                                    have HE8 := Lib.hid hE8
                                    have HB8 := Lib.hid (And.intro hrk hbk)
                                    clear hE8 hG8 hbk hrk)
            clear HE9 HB9
            go_wp2_with fail
            refine (HE8.out.digits (by have := HCC.out.2.2.2.1; have := HCC.out.2.2.1; omega) hTl).mono ?_
            rintro e W9 ⟨va9, N9, vc9, rfl, hE9, hG9⟩
            have hbk := HE8.out.box hG9 (by decide) HB8.out.2
            have hrk := rg_ag (hbk.trans HB8.out.2.symm) HB8.out.1
            have hnS4 : nS ≤ 33554432 := by
              have h1 := flat_ge encN encN_pos cc.subs
              have h2 := hE9.rest
              rw [List.length_append, List.length_cons] at h2
              have := HCC.out.2.1
              omega
            have HE10 := Lib.hid (And.intro hE9 (And.intro hrk hbk))
            clear hE9 hG9 hbk hrk HE8 HB8 l2
            go_upto_block 4 with fail
            refine wp_block ?_
            go_loopw [8, 12] (fun bv iv wr => ∃ (q : Nat) (va : Option Addr) (N vc : Nat), q ≤ nS ∧ bv = .slice va N vc ∧ iv = .int .i64 q ∧ Hid (En T w va N vc ((cc.subs.drop q).flatMap encN ++ (41 :: r2)) wr ∧ wr.rangeAt b11 0 (Cv.cells ⟨.pointer pt, .slice sa nS sc, .slice la nl lc, cb, we⟩) ∧ wr.heap[b11]? = some (.cells ob 37 (0, 0)))) (fun _ iv _ => nS - (intOf iv).toNat)
            case atStart => exact ⟨0, va9, N9, vc9, Nat.zero_le _, rfl, rfl, HE10⟩
            case round =>
              clear HE10
              obtain ⟨q, va, N, vc, hq, rfl, rfl, HR⟩ := hrel
              have l1 := HR.out.2.1 1 _ rfl
              simp only [Nat.zero_add] at l1
              by_cases hlq : q < nS
              · as_aux_lemma =>
                have y0 : (0 : Int) ≤ q := by omega
                have y1 : (q : Int) < nS := by omega
                have qL : q < cc.subs.length := by have := HCC.out.2.1; omega
                obtain ⟨g3, o3, c4, ye, hve, hXg3, hrg3, hel⟩ := RW.at HCC.out.1.2.1 qL
                simp only [Value.slice.injEq] at hve
                obtain ⟨rfl, hz, rfl⟩ := hve
                clear hz
                have hX9 : ∀ b, X b → b < wr.heap.size := fun b h => Nat.lt_of_lt_of_le (HX.out.2.1 b h) HR.out.1.bel.size
                have HBN := Lib.hid (bn_any X ye (.bare cc.subs[q]) wr hX9 (loc1 _ _ _ _ _ _ (To.below HX.out.2.1 HR.out.1.bel) hel))
                have HR3 := Lib.hid (rg_ag (HR.out.1.bel.block g3 (HX.out.2.1 g3 hXg3)) hrg3)
                obtain ⟨nm, hnm⟩ : ∃ n, n = cc.subs[q] := ⟨_, rfl⟩
                rw [← hnm] at HBN
                have HEQ := Lib.hid (show En T w va N vc (46 :: (nm.data.toList ++ ((cc.subs.drop (q + 1)).flatMap encN ++ (41 :: r2)))) wr by
                  have h := HR.out.1
                  rw [drop_flat encN cc.subs q qL, ← hnm, List.append_assoc] at h
                  exact h)
                have HBX := Lib.hid HR.out.2
                clear hX9 hrg3 hXg3 hel hnm HR
                go_wp2_with (refine wpList_load_mid ?hgd 119 (.tmp 103) ?hoq g3 (o3 + q * 3) ?hpa (sbc ye) tS ?hrq hS1 hS2 szSub ?_
                             case hoq => rfl
                             case hgd => rfl
                             case hpa => first | rfl | simp
                             case hrq => exact HR3.out)
                refine HBN.out.mono ?_
                rintro e W9 ⟨rfl, hb9⟩
                unfold bnV
                have HEQ2 := Lib.hid (HEQ.out.keep hb9)
                have HBX2 := Lib.hid (show W9.rangeAt b11 0 (Cv.cells ⟨.pointer pt, .slice (some ⟨g3, o3, none⟩) nS sc, .slice la nl lc, cb, we⟩) ∧ W9.heap[b11]? = some (.cells ob 37 (0, 0)) from by
                  have hlt : b11 < wr.heap.size := (Array.getElem?_eq_some_iff.1 HBX.out.2).1
                  have hk := hb9.block b11 hlt
                  exact ⟨rg_ag hk HBX.out.1, hk.trans HBX.out.2⟩)
                clear hb9 HBN HR3 HEQ HBX
                go_upto_region 29 with (refine wpl_push1 ?hgd ?hge (.const (.int .u8 46)) (.tmp 109) (.tmp 110) ?hoq ?hor 46 HEQ2.out hTl ?hxq ?hss ?hyy ?_
                                        case hoq => rfl
                                        case hor => rfl
                                        case hgd => rfl
                                        case hge => rfl
                                        case hxq => kernel_rfl
                                        case hss => (intro q; rfl)
                                        case hyy => (intro q; rfl)
                                        intro q8 va N vc W8 hE8 hG8
                                        have hbk := HEQ2.out.box hG8 (by decide) HBX2.out.2
                                        have hrk := rg_ag (hbk.trans HBX2.out.2.symm) HBX2.out.1
                                        have HE8 := Lib.hid hE8
                                        have HB8 := Lib.hid (And.intro hrk hbk)
                                        clear hE8 hG8 hbk hrk)
                clear HEQ2 HBX2
                go_wp2_with (at_builtin
                             refine wpl_pushS rfl (.tmp 112) (.tmp 113) rfl nm HE8.out hTl rfl rfl ?_
                             intro va N vc W8 hE9 hG9
                             have hbk := HE8.out.box hG9 (by decide) HB8.out.2
                             have hrk := rg_ag (hbk.trans HB8.out.2.symm) HB8.out.1
                             have HNX := Lib.hid (And.intro hE9 (And.intro hrk hbk))
                             clear hE9 hG9 hbk hrk)
                exact ⟨⟨q + 1, _, _, _, by omega, rfl, by go_num, HNX⟩, by simp [intOf]; omega⟩
              · as_aux_lemma =>
                obtain rfl : q = nS := by omega
                have HEQ := Lib.hid (show En T w va N vc (41 :: r2) wr by
                  have h := HR.out.1
                  rw [drop_end encN cc.subs q HCC.out.2.1, List.nil_append] at h
                  exact h)
                go_wp2_with (refine wpl_push1 ?hgd ?hge (.const (.int .u8 41)) (.tmp 118) (.tmp 119) ?hoq ?hor 41 HEQ.out hTl ?hxq ?hss ?hyy ?_
                             case hoq => rfl
                             case hor => rfl
                             case hgd => rfl
                             case hge => rfl
                             case hxq => kernel_rfl
                             case hss => (intro q; rfl)
                             case hyy => (intro q; rfl)
                             intro q8 va N vc W8 hE8 hG8
                             have HE8 := Lib.hid hE8
                             clear hE8 hG8)
                have HNX := Lib.hid (show En T w _ _ _ ((Ms[i].drop (j + 1)).flatMap encI ++ r1) _ by rw [← HCC.out.2.2.2.2]; exact HE8.out)
                exact ⟨⟨j + 1, _, _, _, by omega, rfl, by go_num, HNX⟩, by simp [intOf]; omega⟩
            -- J1>
          · as_aux_lemma =>
            obtain rfl : j = n2 := by omega
            have HN := Lib.hid (show En T w va N vc ((Ms.drop (i + 1)).flatMap encM) wr by
              have h := HR.out
              rw [drop_end encI Ms[i] j HMI.out.2.1, List.nil_append, HMI.out.2.2.2] at h
              exact h)
            go_wp2_with fail
            exact ⟨⟨i + 1, _, _, _, by omega, rfl, by go_num, HN⟩, by simp [intOf]; omega⟩
      · as_aux_lemma =>
        obtain rfl : i = m := by omega
        have hEz := HR.out
        rw [drop_end encM Ms i HM.out.2] at hEz
        have hcv := hEz.str (by rw [HT.out]; show 0 < (119 :: _ : List UInt8).length; simp)
        have HBF := Lib.hid (And.intro hEz.bel HT.out)
        clear hEz HR
        obtain ⟨rs, hrs⟩ : ∃ z : ByteArray, z = ⟨T.toArray⟩ := ⟨_, rfl⟩
        rw [← hrs] at hcv
        have HRS := Lib.hid hrs
        clear hrs
        go_wp2_with fail
        go_ret
        refine ⟨?_, HBF.out.1⟩
        rw [← HBF.out.2, ← HRS.out]
        rfl
end Go.Proofs.Ytbpnmiedomchpaa.Fg
