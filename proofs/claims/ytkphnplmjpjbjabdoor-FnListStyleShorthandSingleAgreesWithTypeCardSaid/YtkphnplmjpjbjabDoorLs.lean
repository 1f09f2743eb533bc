/-
  processListStyleType; processListStyleShorthand at one token.
-/
import Derived.Test.YtkphnplmjpjbjabDoorHs
import Derived.Deep.MidRow
import Derived.Deep.DeepCutAuto
import Derived.Deep.CutBlock
namespace Go.Proofs.YtkphnplmjpjbjabDoor.Sy
open Go.ChangeShapes Go.WideShapes Go.ChangeAt Go.RowKit Rg
set_option linter.unusedVariables false
def styG : Nat := 1
/-- the table of counter styles, which does not turn below B -/
def MB (B : Nat) (D2 : DataW Unit) (w : World) : Prop := ∃ wb, wb.heap.size = B ∧ MV styG D2 wb ∧ Below B wb w
theorem MB.below {B : Nat} {D2 : DataW Unit} {w w' : World} (h : MB B D2 w) (hb : Below B w w') : MB B D2 w' := by
  obtain ⟨wb, h1, h2, h3⟩ := h
  exact ⟨wb, h1, h2, h3.trans hb⟩
theorem MB.size {B : Nat} {D2 : DataW Unit} {w : World} (h : MB B D2 w) : B ≤ w.heap.size := by
  obtain ⟨wb, rfl, _, hb⟩ := h
  exact hb.size
theorem MB.keep {B : Nat} {D2 : DataW Unit} {w w' : World} (h : MB B D2 w) (hb : Below w.heap.size w w') : MB B D2 w' := h.below (hb.mono h.size)
theorem MB.mv {B : Nat} {D2 : DataW Unit} {w : World} (h : MB B D2 w) : MV styG D2 w := by
  obtain ⟨wb, rfl, h2, h3⟩ := h
  exact h2.keep h3
/-- what processListStyleType turns into a symbol -/
def cT (D2 : DataW Unit) (_ : Nat) (x : TK) : Bool := decide (x.2.1 = 29) && !((lowB x.1).toList == [110, 111, 110, 101]) && !lookD (.map cssL) (lowB x.1) && !lookD D2 (lowB x.1)
/-- what the shorthand turns into a symbol at one token -/
def cL (D2 : DataW Unit) (j : Nat) (x : TK) : Bool := cT D2 j x && !((lowB x.1).toList == [105, 110, 115, 105, 100, 101]) && !((lowB x.1).toList == [111, 117, 116, 115, 105, 100, 101])
theorem tyTok : ∃ d, Tryd.prog.underlying 36 = some d ∧ d.isRow = true := ⟨_, Tryd.underlying36, rfl⟩
theorem szTok : (Tryd.prog.info? 36).map (·.size) = some 7 := by kernel_rfl
theorem TB.range {w : World} {g i : Nat} {T : List TK} (h : TB w g T) (hi : i < T.length) : w.rangeAt g (i * 7) (tkF T i) := fun j v hv => h.cellAt hi hv
set_option maxRecDepth 100000 in
set_option maxHeartbeats 4000000 in
theorem lt_any {B : Nat} {X : Nat → Prop} (D2 : DataW Unit) (p g i : Nat) (ml : Bool) (z : List TK × SY) (w : World) (h : ST B X p ml g z w) (hm : MB B D2 w) (hi : i < z.1.length) (hb : SBd 2000000 z.2) (hs : ((z.1.getD i tk0).1.size : Int) ≤ 1048576) :
    Calls Tryd.prog 14 #[.pointer (some ⟨p, 0, none⟩), .pointer (some ⟨g, i * 7, none⟩)] w fun e w' => e = .returned (.tuple #[]) ∧ ∃ X' : Nat → Prop, ST B X' p ml g (stp (cT D2) i z) w' ∧ GO X g w X' w' := by
  obtain ⟨⟨s, K, P0⟩, he⟩ : ∃ x, z.1.getD i tk0 = x := ⟨_, rfl⟩
  rw [he] at hs
  have HE := Lib.hid he
  have HS := Lib.hid h
  have HB := Lib.hid hb
  have HM := Lib.hid hm
  have hf : ∀ j : Nat, (tkF z.1 i)[j]? = (tkR (s, K, P0))[j]? := fun j => by unfold tkF; rw [he]
  have c1 := h.tb.cellAt hi ((hf 1).trans rfl)
  have c2 := h.tb.cellAt hi ((hf 2).trans rfl)
  have c5 := h.tb.cellAt hi ((hf 5).trans rfl)
  have f5 := Bk.frozen h.tb (i * 7 + 5)
  clear h he hb hf hm
  go_enter Tryd.func14, Tryd.ntmps14
  by_cases k29 : K = 29
  case neg =>
    have g0 : (K == 29) = false := by simpa using k29
    have HCC : Hid (cT D2 i (z.1.getD i tk0) = false) := Lib.hid (by rw [HE.out]; unfold cT; rw [decide_eq_false k29]; rfl)
    go_wp2_with fail
    go_end0
    exact ⟨rfl, X, by rw [stp_not HCC.out]; exact HS.out, GO.refl⟩
  subst k29
  go_wp2_with fail
  refine (low_any s w hs HS.out.ev.tl).mono ?_
  rintro e wc ⟨rfl, hb⟩
  have hz : (lowB s).size ≤ maxLen := by have hl := low_len s; unfold maxLen; (try simp only at hs); omega
  obtain ⟨b1, hcm, hr⟩ := (HS.out.ev.keep hb).mv.run (lowB s) hz
  obtain ⟨b2, hcm2, hr2⟩ := (HM.out.keep hb).mv.run (lowB s) hz
  have HR1 := Lib.hid hr
  have HR2 := Lib.hid hr2
  have hc2 : wc.cell? ⟨0, 0, none⟩ = some (.map (some b1)) := hcm
  have hc3 : wc.cell? ⟨1, 0, none⟩ = some (.map (some b2)) := hcm2
  clear hr hr2 hcm hcm2 hz
  have HB1 := Lib.hid hb
  have HS1 := Lib.hid (HS.out.keep HB1.out)
  have d1 := later HB1.out c1
  have d2 := later HB1.out c2
  have d5 := later HB1.out c5
  have f5' := Bk.frozen HS1.out.tb (i * 7 + 5)
  clear hb c1 c2 c5 f5 HM
  have HC : Hid (cT D2 i (z.1.getD i tk0) = (!((lowB s).toList == [110, 111, 110, 101]) && !lookD (.map cssL) (lowB s) && !lookD D2 (lowB s))) := Lib.hid (by rw [HE.out]; unfold cT; simp)
  obtain ⟨u, hu⟩ : ∃ u, lowB s = u := ⟨_, rfl⟩
  rw [hu] at HR1 HR2 HC ⊢
  clear hu
  obtain ⟨v1, hv1⟩ : ∃ v, lookD (.map cssL) u = v := ⟨_, rfl⟩
  obtain ⟨v2, hv2⟩ : ∃ v, lookD D2 u = v := ⟨_, rfl⟩
  rw [hv1] at HR1 HC
  rw [hv2] at HR2 HC
  clear hv1 hv2
  rcases Bool.eq_false_or_eq_true (u.toList == [110, 111, 110, 101]) with g1 | g1
  · have HCC : Hid (cT D2 i (z.1.getD i tk0) = false) := Lib.hid (by rw [HC.out, g1]; rfl)
    clear HC
    go_wp2_with fail
    go_end0
    exact ⟨rfl, X, by rw [stp_not HCC.out]; exact HS1.out, GO.keep HB1.out⟩
  cases v1 with
  | true =>
    have HCC : Hid (cT D2 i (z.1.getD i tk0) = false) := Lib.hid (by rw [HC.out, g1]; rfl)
    clear HC
    go_wp2_with (at_lookup; first | refine wpl_lookup_g _ (by rfl) _ _ _ _ rfl _ _ _ rfl rfl HR1.out ?_ | refine wpl_lookup_g _ (by rfl) _ _ _ _ rfl _ _ _ rfl rfl HR2.out ?_)
    go_end0
    exact ⟨rfl, X, by rw [stp_not HCC.out]; exact HS1.out, GO.keep HB1.out⟩
  | false =>
    cases v2 with
    | true =>
      have HCC : Hid (cT D2 i (z.1.getD i tk0) = false) := Lib.hid (by rw [HC.out, g1]; rfl)
      clear HC
      go_wp2_with (at_lookup; first | refine wpl_lookup_g _ (by rfl) _ _ _ _ rfl _ _ _ rfl rfl HR1.out ?_ | refine wpl_lookup_g _ (by rfl) _ _ _ _ rfl _ _ _ rfl rfl HR2.out ?_)
      go_end0
      exact ⟨rfl, X, by rw [stp_not HCC.out]; exact HS1.out, GO.keep HB1.out⟩
    | false =>
      have HCC : Hid (cT D2 i (z.1.getD i tk0) = true) := Lib.hid (by rw [HC.out, g1]; rfl)
      clear HC
      go_upto_region 4 with (at_lookup; first | refine wpl_lookup_g _ (by rfl) _ _ _ _ rfl _ _ _ rfl rfl HR1.out ?_ | refine wpl_lookup_g _ (by rfl) _ _ _ _ rfl _ _ _ rfl rfl HR2.out ?_)
      obtain ⟨ws, hws⟩ : ∃ ws, ws = wc.setCell ⟨g, i * 7 + 5, none⟩ (.int .u8 39) := ⟨_, rfl⟩
      obtain ⟨hm1, hm2⟩ := HS1.out.mark hi HE.out
      rw [← hws] at hm1 hm2 ⊢
      have HW := Lib.hid hws
      have HM := Lib.hid hm1
      have HM2 := Lib.hid hm2
      have hg : (z.1.set i (s, (39 : Int), P0)).getD i tk0 = (s, 39, P0) := getD_set_eq hi
      have hi2 : i < (z.1.set i (s, (39 : Int), P0)).length := by simpa using hi
      have hf : ∀ j : Nat, (tkF (z.1.set i (s, (39 : Int), P0)) i)[j]? = (tkR (s, 39, P0))[j]? := fun j => by unfold tkF; rw [hg]
      have c1 := hm1.tb.cellAt hi2 ((hf 1).trans rfl)
      have c2 := hm1.tb.cellAt hi2 ((hf 2).trans rfl)
      have HI2 := Lib.hid (And.intro hi2 hg)
      clear hws hm1 hm2 d1 d2 d5 f5' hg hi2 hf
      have HS0 := Lib.hid (show TX g i s ws.drew from ⟨c1, c2⟩)
      have HMD := Lib.hid (show ST B X p ml g (z.1.set i (s, (39 : Int), P0), z.2) ws.drew from HM.out.keep (Below.refl _ _).drew)
      have HIR := Lib.hid HMD.out.ev.ir
      clear c1 c2
      have fl1 := fun w => fld1 (plS s z.2 : Int) w
      have fl2 := fun w => fld2 (plS s z.2 : Int) w
      refine Pl.wp_region_split (TX g i s) 13 (by kernel_rfl) (by kernel_rfl) ?_
      simp only [List.take_succ_cons, List.take_zero]
      have hHeld := HS0.out
      refine Pl.take_l (i := 0) (v := ?v1) rfl (by kernel_rfl) (by kernel_rfl) (by kernel_rfl) (fun _ _ _ h => h) rfl ?hy1 hHeld ?rest1
      case hy1 => (intro w hSw; (try dsimp only at hSw); (try obtain ⟨_, _⟩ := hSw); go_simp <;> (try with_reducible rfl))
      try simp only [Act.put, List.setIfInBounds_toArray, List.set_cons_zero, List.set_cons_succ]
      refine Pl.take_l (i := 1) (v := ?v2) rfl (by kernel_rfl) (by kernel_rfl) (by kernel_rfl) (fun _ _ _ h => h) rfl ?hy2 hHeld ?rest2
      case hy2 => (intro w hSw; (try dsimp only at hSw); (try obtain ⟨_, _⟩ := hSw); go_simp <;> (try with_reducible rfl))
      try simp only [Act.put, List.setIfInBounds_toArray, List.set_cons_zero, List.set_cons_succ]
      refine Pl.take_l (i := 2) (v := ?v3) rfl (by kernel_rfl) (by kernel_rfl) (by kernel_rfl) (fun _ _ _ h => h) rfl ?hy3 hHeld ?rest3
      case hy3 => (intro w hSw; (try dsimp only at hSw); (try obtain ⟨_, _⟩ := hSw); go_simp <;> (try with_reducible rfl))
      try simp only [Act.put, List.setIfInBounds_toArray, List.set_cons_zero, List.set_cons_succ]
      refine Pl.take_l (i := 3) (v := ?v4) rfl (by kernel_rfl) (by kernel_rfl) (by kernel_rfl) (fun _ _ _ h => h) rfl ?hy4 hHeld ?rest4
      case hy4 => (intro w hSw; (try dsimp only at hSw); (try obtain ⟨_, _⟩ := hSw); go_simp <;> (try with_reducible rfl))
      try simp only [Act.put, List.setIfInBounds_toArray, List.set_cons_zero, List.set_cons_succ]
      refine Pl.take_l (i := 4) (v := ?v5) rfl (by kernel_rfl) (by kernel_rfl) (by kernel_rfl) (fun _ _ _ h => h) rfl ?hy5 hHeld ?rest5
      case hy5 => (intro w hSw; (try dsimp only at hSw); (try obtain ⟨_, _⟩ := hSw); go_simp <;> (try with_reducible rfl))
      try simp only [Act.put, List.setIfInBounds_toArray, List.set_cons_zero, List.set_cons_succ]
      refine Pl.take_l (i := 5) (v := ?v6) rfl (by kernel_rfl) (by kernel_rfl) (by kernel_rfl) (fun _ _ _ h => h) rfl ?hy6 hHeld ?rest6
      case hy6 => (intro w hSw; (try dsimp only at hSw); (try obtain ⟨_, _⟩ := hSw); go_simp <;> (try with_reducible rfl))
      try simp only [Act.put, List.setIfInBounds_toArray, List.set_cons_zero, List.set_cons_succ]
      refine Pl.take_l (i := 6) (v := ?v7) rfl (by kernel_rfl) (by kernel_rfl) (by kernel_rfl) (fun _ _ _ h => h) rfl ?hy7 hHeld ?rest7
      case hy7 => (intro w hSw; (try dsimp only at hSw); (try obtain ⟨_, _⟩ := hSw); go_simp <;> (try with_reducible rfl))
      try simp only [Act.put, List.setIfInBounds_toArray, List.set_cons_zero, List.set_cons_succ]
      refine Pl.take_l (i := 7) (v := ?v8) rfl (by kernel_rfl) (by kernel_rfl) (by kernel_rfl) (fun _ _ _ h => h) rfl ?hy8 hHeld ?rest8
      case hy8 => (intro w hSw; (try dsimp only at hSw); (try obtain ⟨_, _⟩ := hSw); go_simp <;> (try with_reducible rfl))
      try simp only [Act.put, List.setIfInBounds_toArray, List.set_cons_zero, List.set_cons_succ]
      refine Pl.take_l (i := 8) (v := ?v9) rfl (by kernel_rfl) (by kernel_rfl) (by kernel_rfl) (fun _ _ _ h => h) rfl ?hy9 hHeld ?rest9
      case hy9 => (intro w hSw; (try dsimp only at hSw); (try obtain ⟨_, _⟩ := hSw); go_simp <;> (try with_reducible rfl))
      try simp only [Act.put, List.setIfInBounds_toArray, List.set_cons_zero, List.set_cons_succ]
      refine Pl.take_l (i := 9) (v := ?v10) rfl (by kernel_rfl) (by kernel_rfl) (by kernel_rfl) (fun _ _ _ h => h) rfl ?hy10 hHeld ?rest10
      case hy10 => (intro w hSw; (try dsimp only at hSw); (try obtain ⟨_, _⟩ := hSw); go_simp <;> (try with_reducible rfl))
      try simp only [Act.put, List.setIfInBounds_toArray, List.set_cons_zero, List.set_cons_succ]
      refine Pl.alone_l (i := 10) (by kernel_rfl) rfl (fun K hK => ?_)
      go_simp; refine (sf_any X s p ml z.2 ws.drew HMD.out.ps HIR.out (by have := HB.out.1; omega) HB.out.2).mono ?_; rintro e w2 ⟨rfl, X', hp2, ho2, hx2⟩; have HP2 := Lib.hid hp2; have HO2 := Lib.hid ho2; have HX2 := Lib.hid hx2; clear hp2 ho2 hx2; dsimp only
      refine hK.out _ _ (TX.keep HMD.out HS0.out HO2.out) (fun hHeld2 => ?_)
      clear hK K hHeld
      have hHeld := hHeld2
      clear hHeld2
      try simp only [Act.put, List.setIfInBounds_toArray, List.set_cons_zero, List.set_cons_succ]
      refine Pl.take_l (i := 11) (v := ?v11) rfl (by kernel_rfl) (by kernel_rfl) (by kernel_rfl) (fun _ _ _ h => h) rfl ?hy11 hHeld ?rest11
      case hy11 => (intro w hSw; (try dsimp only at hSw); (try obtain ⟨_, _⟩ := hSw); go_simp <;> (try with_reducible rfl))
      try simp only [Act.put, List.setIfInBounds_toArray, List.set_cons_zero, List.set_cons_succ]
      refine Pl.take_l (i := 12) (v := ?v12) rfl (by kernel_rfl) (by kernel_rfl) (by kernel_rfl) (fun _ _ _ h => h) rfl ?hy12 hHeld ?rest12
      case hy12 => (intro w hSw; (try dsimp only at hSw); (try obtain ⟨_, _⟩ := hSw); go_simp <;> (try with_reducible rfl))
      try simp only [Act.put, List.setIfInBounds_toArray, List.set_cons_zero, List.set_cons_succ]
      refine wpAnyH_done (by kernel_rfl) ?_ _
      refine Pl.behind_normal (by decide) ?_
      simp only [List.drop_succ_cons, List.drop_zero]
      clear hHeld
      clear fl1 fl2
      have c3 : w2.cell? ⟨g, i * 7 + 3, none⟩ = some (.int .u32 P0) := TB.cellAt (T := z.1.set i (s, (39 : Int), P0)) (HO2.out.keep_bk HMD.out.tb (fun hx => (HMD.out.xs _ hx).2.2 rfl)) (by simpa using hi) (j := 3) (by unfold tkF; rw [HI2.out.2]; rfl)
      have f3 : w2.frozen? ⟨g, i * 7 + 3, none⟩ = false := Bk.frozen (HO2.out.keep_bk HMD.out.tb (fun hx => (HMD.out.xs _ hx).2.2 rfl)) _
      go_wp2_with fail
      go_end0
      obtain ⟨q1, q2⟩ := HS1.out.conv hi HE.out (w1 := ws.drew) (by rw [← HW.out]; exact (Below.refl _ _).drew) HP2.out HO2.out HX2.out (Below.refl _ _)
      exact ⟨rfl, X', by rw [stp_do HCC.out, HE.out]; exact q1, (GO.keep HB1.out).trans q2⟩
set_option maxRecDepth 100000 in
set_option maxHeartbeats 8000000 in
theorem ls_any {B : Nat} {X : Nat → Prop} (D2 : DataW Unit) (p g : Nat) (ml : Bool) (z : List TK × SY) (w : World) (h : ST B X p ml g z w) (hm : MB B D2 w) (hn : z.1.length = 1) (hb : SBd 2000000 z.2) (hs : ((z.1.getD 0 tk0).1.size : Int) ≤ 1048576) :
    Calls Tryd.prog 13 #[.pointer (some ⟨p, 0, none⟩), .slice (some ⟨g, 0, none⟩) 1 1] w fun e w' => e = .returned (.tuple #[]) ∧ ∃ X' : Nat → Prop, ST B X' p ml g (stp (cL D2) 0 z) w' ∧ GO X g w X' w' := by
  have hi : 0 < z.1.length := by omega
  obtain ⟨⟨s, K, P0⟩, he⟩ : ∃ x, z.1.getD 0 tk0 = x := ⟨_, rfl⟩
  rw [he] at hs
  have HE := Lib.hid he
  have HS := Lib.hid h
  have HB := Lib.hid hb
  have HM := Lib.hid hm
  have hr := TB.range h.tb hi
  unfold tkF at hr
  rw [he] at hr
  have HL : Hid (w.rangeAt g 0 [.pointer none, .string s, .int .i32 0, .int .u32 P0, .int .u16 0, .int .u8 K, .int .u8 0]) := Lib.hid hr
  obtain ⟨du, hu, hu2⟩ := tyTok
  have HU := Lib.hid hu
  clear h he hb hm hr hu hn
  go_enter Tryd.func13, Tryd.ntmps13
  go_wp2_with fail
  go_loopw [4, 5, 6, 7, 22] (fun s4 s5 s6 s7 i wr => (i = .int .i64 0 ∧ s4 = .bool false ∧ s5 = .bool false ∧ s6 = .int .i64 (-1) ∧ s7 = .int .i64 0 ∧ wr = w) ∨ (i = .int .i64 1 ∧ Hid (Below w.heap.size w wr) ∧ ((s6 = .int .i64 (-1) ∧ Hid (cL D2 0 (z.1.getD 0 tk0) = false)) ∨ (s4 = .bool false ∧ s6 = .int .i64 0 ∧ s7 = .int .i64 0 ∧ Hid (cL D2 0 (z.1.getD 0 tk0) = true))))) (fun _ _ _ _ i _ => 1 - (intOf i).toNat)
  case atStart => exact .inl ⟨rfl, rfl, rfl, rfl, rfl, rfl⟩
  case round =>
    rcases hrel with ⟨rfl, rfl, rfl, rfl, rfl, rfl⟩ | ⟨rfl, HB1, h1⟩
    · go_upto_region 8 with (first | (refine wpList_load_mid rfl 36 _ rfl g 0 rfl _ du HL.out HU.out hu2 szTok ?_))
      have hbA : ∀ o, Below wr.heap.size wr (wr.alloc o) := fun o => (Below.refl _ _).alloc (Nat.le_refl _) _
      have HBA := Lib.hid (hbA (.cells #[.pointer none, .string s, .int .i32 0, .int .u32 P0, .int .u16 0, .int .u8 K, .int .u8 0] 36))
      clear hbA HL
      by_cases k36 : K = 36
      · subst k36
        have HCC : Hid (cL D2 0 (z.1.getD 0 tk0) = false) := Lib.hid (by rw [HE.out]; rfl)
        go_wp2_with fail
        (try simp only [Exit.inBlock, Exit.then]); refine bodyPost_ret (results_none rfl _ _ _) rfl ?_
        exact ⟨rfl, X, by rw [stp_not HCC.out]; exact HS.out.keep HBA.out, GO.keep HBA.out⟩
      by_cases k37 : K = 37
      · subst k37
        have HCC : Hid (cL D2 0 (z.1.getD 0 tk0) = false) := Lib.hid (by rw [HE.out]; rfl)
        go_wp2_with fail
        exact ⟨.inr ⟨rfl, HBA, .inl ⟨rfl, HCC⟩⟩, by simp [intOf]⟩
      by_cases k29 : K = 29
      case neg =>
        have HCC : Hid (cL D2 0 (z.1.getD 0 tk0) = false) := Lib.hid (by rw [HE.out]; unfold cL cT; rw [decide_eq_false k29]; rfl)
        have g1 : (K == 36) = false := by simpa using k36
        have g2 : (K == 37) = false := by simpa using k37
        have g3 : (K == 29) = false := by simpa using k29
        by_cases k27 : K = 27
        case neg =>
          have g4 : (K == 27) = false := by simpa using k27
          go_wp2_with fail
          (try simp only [Exit.inBlock, Exit.then]); refine bodyPost_ret (results_none rfl _ _ _) rfl ?_
          exact ⟨rfl, X, by rw [stp_not HCC.out]; exact HS.out.keep HBA.out, GO.keep HBA.out⟩
        subst k27
        clear g1 g2 g3 k36 k37 k29
        go_wp2_with fail
        refine (low_any s _ hs (HS.out.keep HBA.out).ev.tl).mono ?_
        rintro e wc ⟨rfl, hb⟩
        have HB2 := Lib.hid (HBA.out.trans (hb.mono HBA.out.size))
        clear hb HBA
        generalize lowB s = u at *
        go_upto_if 42 with fail
        go_cut [42] (fun sb wd => (∃ b : Bool, sb = .bool b) ∧ wd = wc)
        case first =>
          go_wp2_with fail
          all_goals go_meet
          all_goals exact ⟨⟨_, rfl⟩, rfl⟩
        case rest =>
          obtain ⟨⟨b, rfl⟩, rfl⟩ := hcut
          cases b
          · go_wp2_with fail
            (try simp only [Exit.inBlock, Exit.then]); refine bodyPost_ret (results_none rfl _ _ _) rfl ?_
            exact ⟨rfl, X, by rw [stp_not HCC.out]; exact HS.out.keep HB2.out, GO.keep HB2.out⟩
          · go_wp2_with fail
            exact ⟨.inr ⟨rfl, HB2, .inl ⟨rfl, HCC⟩⟩, by simp [intOf]⟩
      subst k29
      clear k36 k37
      have HSA := Lib.hid (HS.out.keep HBA.out)
      have HMA := Lib.hid (HM.out.keep HBA.out)
      go_wp2_with fail
      refine (low_any s _ hs HSA.out.ev.tl).mono ?_
      rintro e wc ⟨rfl, hb⟩
      have hz : (lowB s).size ≤ maxLen := by have hl := low_len s; unfold maxLen; (try simp only at hs); omega
      obtain ⟨b1, hcm, hr⟩ := (HSA.out.ev.keep hb).mv.run (lowB s) hz
      obtain ⟨b2, hcm2, hr2⟩ := (HMA.out.keep hb).mv.run (lowB s) hz
      have HR1 := Lib.hid hr
      have HR2 := Lib.hid hr2
      have hc2 : wc.cell? ⟨0, 0, none⟩ = some (.map (some b1)) := hcm
      have hc3 : wc.cell? ⟨1, 0, none⟩ = some (.map (some b2)) := hcm2
      clear hr hr2 hcm hcm2 hz
      have HB2 := Lib.hid (HBA.out.trans (hb.mono HBA.out.size))
      clear hb HBA HSA HMA
      have HC : Hid (cL D2 0 (z.1.getD 0 tk0) = (!((lowB s).toList == [110, 111, 110, 101]) && !lookD (.map cssL) (lowB s) && !lookD D2 (lowB s) && !((lowB s).toList == [105, 110, 115, 105, 100, 101]) && !((lowB s).toList == [111, 117, 116, 115, 105, 100, 101]))) := Lib.hid (by rw [HE.out]; unfold cL cT; simp)
      obtain ⟨u, hu⟩ : ∃ u, lowB s = u := ⟨_, rfl⟩
      rw [hu] at HR1 HR2 HC ⊢
      clear hu
      obtain ⟨v1, hv1⟩ : ∃ v, lookD (.map cssL) u = v := ⟨_, rfl⟩
      obtain ⟨v2, hv2⟩ : ∃ v, lookD D2 u = v := ⟨_, rfl⟩
      rw [hv1] at HR1 HC
      rw [hv2] at HR2 HC
      clear hv1 hv2
      rcases Bool.eq_false_or_eq_true (u.toList == [110, 111, 110, 101]) with g1 | g1
      · have HCC : Hid (cL D2 0 (z.1.getD 0 tk0) = false) := Lib.hid (by rw [HC.out, g1]; rfl)
        clear HC
        go_wp2_with fail
        exact ⟨.inr ⟨rfl, HB2, .inl ⟨rfl, HCC⟩⟩, by simp [intOf]⟩
      rcases Bool.eq_false_or_eq_true (u.toList == [105, 110, 115, 105, 100, 101]) with g2 | g2
      · have HCC : Hid (cL D2 0 (z.1.getD 0 tk0) = false) := Lib.hid (by rw [HC.out, g2]; simp)
        clear HC
        go_wp2_with fail
        exact ⟨.inr ⟨rfl, HB2, .inl ⟨rfl, HCC⟩⟩, by simp [intOf]⟩
      rcases Bool.eq_false_or_eq_true (u.toList == [111, 117, 116, 115, 105, 100, 101]) with g3 | g3
      · have HCC : Hid (cL D2 0 (z.1.getD 0 tk0) = false) := Lib.hid (by rw [HC.out, g3]; simp)
        clear HC
        go_wp2_with fail
        exact ⟨.inr ⟨rfl, HB2, .inl ⟨rfl, HCC⟩⟩, by simp [intOf]⟩
      cases v1 with
      | true =>
        have HCC : Hid (cL D2 0 (z.1.getD 0 tk0) = false) := Lib.hid (by rw [HC.out, g1]; rfl)
        clear HC
        go_wp2_with (at_lookup; first | refine wpl_lookup _ rfl _ _ _ _ rfl _ _ _ rfl rfl HR1.out ?_ | refine wpl_lookup_g _ (by rfl) _ _ _ _ rfl _ _ _ rfl rfl HR2.out ?_)
        (try simp only [Exit.inBlock, Exit.then]); refine bodyPost_ret (results_none rfl _ _ _) rfl ?_
        exact ⟨rfl, X, by rw [stp_not HCC.out]; exact HS.out.keep HB2.out, GO.keep HB2.out⟩
      | false =>
        cases v2 with
        | true =>
          have HCC : Hid (cL D2 0 (z.1.getD 0 tk0) = false) := Lib.hid (by rw [HC.out, g1]; rfl)
          clear HC
          go_wp2_with (at_lookup; first | refine wpl_lookup _ rfl _ _ _ _ rfl _ _ _ rfl rfl HR1.out ?_ | refine wpl_lookup_g _ (by rfl) _ _ _ _ rfl _ _ _ rfl rfl HR2.out ?_)
          (try simp only [Exit.inBlock, Exit.then]); refine bodyPost_ret (results_none rfl _ _ _) rfl ?_
          exact ⟨rfl, X, by rw [stp_not HCC.out]; exact HS.out.keep HB2.out, GO.keep HB2.out⟩
        | false =>
          have HCC : Hid (cL D2 0 (z.1.getD 0 tk0) = true) := Lib.hid (by rw [HC.out, g1, g2, g3]; rfl)
          clear HC
          go_wp2_with (at_lookup; first | refine wpl_lookup _ rfl _ _ _ _ rfl _ _ _ rfl rfl HR1.out ?_ | refine wpl_lookup_g _ (by rfl) _ _ _ _ rfl _ _ _ rfl rfl HR2.out ?_)
          exact ⟨.inr ⟨rfl, HB2, .inr ⟨rfl, rfl, rfl, HCC⟩⟩, by simp [intOf]⟩
    · rcases h1 with ⟨rfl, HCC⟩ | ⟨rfl, rfl, rfl, HCC⟩
      · go_wp2_with fail
        go_end0
        exact ⟨rfl, X, by rw [stp_not HCC.out]; exact HS.out.keep HB1.out, GO.keep HB1.out⟩
      · obtain ⟨i, hi0⟩ : ∃ i : Nat, i = 0 := ⟨_, rfl⟩
        obtain ⟨wc, hwc⟩ : ∃ wc, wr = wc := ⟨_, rfl⟩
        subst hwc
        have HS1 := Lib.hid (HS.out.keep HB1.out)
        have hf : ∀ j : Nat, (tkF z.1 0)[j]? = (tkR (s, K, P0))[j]? := fun j => by unfold tkF; rw [HE.out]
        have hK : K = 29 := by
          have h := HCC.out
          rw [HE.out] at h
          unfold cL cT at h
          simp only [Bool.and_eq_true, decide_eq_true_eq] at h
          exact h.1.1.1.1.1
        subst hK
        have d1 := HS1.out.tb.cellAt hi ((hf 1).trans rfl)
        have d2 := HS1.out.tb.cellAt hi ((hf 2).trans rfl)
        have d5 := HS1.out.tb.cellAt hi ((hf 5).trans rfl)
        have f5' := Bk.frozen HS1.out.tb (0 * 7 + 5)
        simp only [Nat.zero_mul, Nat.zero_add] at d1 d2 d5 f5'
        clear hf hi0
        go_upto_region 39 with fail
        obtain ⟨ws, hws⟩ : ∃ ws, ws = wr.setCell ⟨g, 5, none⟩ (.int .u8 39) := ⟨_, rfl⟩
        obtain ⟨hm1, hm2⟩ := HS1.out.mark hi HE.out
        rw [← hws] at hm1 hm2 ⊢
        have HW := Lib.hid hws
        have HM := Lib.hid hm1
        have HM2 := Lib.hid hm2
        have hg : (z.1.set 0 (s, (39 : Int), P0)).getD 0 tk0 = (s, 39, P0) := getD_set_eq hi
        have hi2 : 0 < (z.1.set 0 (s, (39 : Int), P0)).length := by simpa using hi
        have hf : ∀ j : Nat, (tkF (z.1.set 0 (s, (39 : Int), P0)) 0)[j]? = (tkR (s, 39, P0))[j]? := fun j => by unfold tkF; rw [hg]
        have c1 := hm1.tb.cellAt hi2 ((hf 1).trans rfl)
        have c2 := hm1.tb.cellAt hi2 ((hf 2).trans rfl)
        have HI2 := Lib.hid (And.intro hi2 hg)
        clear hws hm1 hm2 d1 d2 d5 f5' hg hi2 hf
        have HS0 := Lib.hid (show TX g 0 s ws.drew from ⟨c1, c2⟩)
        have HMD := Lib.hid (show ST B X p ml g (z.1.set 0 (s, (39 : Int), P0), z.2) ws.drew from HM.out.keep (Below.refl _ _).drew)
        have HIR := Lib.hid HMD.out.ev.ir
        clear c1 c2
        have fl1 := fun w => fld1 (plS s z.2 : Int) w
        have fl2 := fun w => fld2 (plS s z.2 : Int) w
        refine Pl.wp_region_split (TX g 0 s) 13 (by kernel_rfl) (by kernel_rfl) ?_
        simp only [List.take_succ_cons, List.take_zero]
        have hHeld := HS0.out
        refine Pl.take_l (i := 0) (v := ?v13) rfl (by kernel_rfl) (by kernel_rfl) (by kernel_rfl) (fun _ _ _ h => h) rfl ?hy13 hHeld ?rest13
        case hy13 => (intro w hSw; (try dsimp only at hSw); (try obtain ⟨_, _⟩ := hSw); go_simp <;> (try with_reducible rfl))
        try simp only [Act.put, List.setIfInBounds_toArray, List.set_cons_zero, List.set_cons_succ]
        refine Pl.take_l (i := 1) (v := ?v14) rfl (by kernel_rfl) (by kernel_rfl) (by kernel_rfl) (fun _ _ _ h => h) rfl ?hy14 hHeld ?rest14
        case hy14 => (intro w hSw; (try dsimp only at hSw); (try obtain ⟨_, _⟩ := hSw); go_simp <;> (try with_reducible rfl))
        try simp only [Act.put, List.setIfInBounds_toArray, List.set_cons_zero, List.set_cons_succ]
        refine Pl.take_l (i := 2) (v := ?v15) rfl (by kernel_rfl) (by kernel_rfl) (by kernel_rfl) (fun _ _ _ h => h) rfl ?hy15 hHeld ?rest15
        case hy15 => (intro w hSw; (try dsimp only at hSw); (try obtain ⟨_, _⟩ := hSw); go_simp <;> (try with_reducible rfl))
        try simp only [Act.put, List.setIfInBounds_toArray, List.set_cons_zero, List.set_cons_succ]
        refine Pl.take_l (i := 3) (v := ?v16) rfl (by kernel_rfl) (by kernel_rfl) (by kernel_rfl) (fun _ _ _ h => h) rfl ?hy16 hHeld ?rest16
        case hy16 => (intro w hSw; (try dsimp only at hSw); (try obtain ⟨_, _⟩ := hSw); go_simp <;> (try with_reducible rfl))
        try simp only [Act.put, List.setIfInBounds_toArray, List.set_cons_zero, List.set_cons_succ]
        refine Pl.take_l (i := 4) (v := ?v17) rfl (by kernel_rfl) (by kernel_rfl) (by kernel_rfl) (fun _ _ _ h => h) rfl ?hy17 hHeld ?rest17
        case hy17 => (intro w hSw; (try dsimp only at hSw); (try obtain ⟨_, _⟩ := hSw); go_simp <;> (try with_reducible rfl))
        try simp only [Act.put, List.setIfInBounds_toArray, List.set_cons_zero, List.set_cons_succ]
        refine Pl.take_l (i := 5) (v := ?v18) rfl (by kernel_rfl) (by kernel_rfl) (by kernel_rfl) (fun _ _ _ h => h) rfl ?hy18 hHeld ?rest18
        case hy18 => (intro w hSw; (try dsimp only at hSw); (try obtain ⟨_, _⟩ := hSw); go_simp <;> (try with_reducible rfl))
        try simp only [Act.put, List.setIfInBounds_toArray, List.set_cons_zero, List.set_cons_succ]
        refine Pl.take_l (i := 6) (v := ?v19) rfl (by kernel_rfl) (by kernel_rfl) (by kernel_rfl) (fun _ _ _ h => h) rfl ?hy19 hHeld ?rest19
        case hy19 => (intro w hSw; (try dsimp only at hSw); (try obtain ⟨_, _⟩ := hSw); go_simp <;> (try with_reducible rfl))
        try simp only [Act.put, List.setIfInBounds_toArray, List.set_cons_zero, List.set_cons_succ]
        refine Pl.take_l (i := 7) (v := ?v20) rfl (by kernel_rfl) (by kernel_rfl) (by kernel_rfl) (fun _ _ _ h => h) rfl ?hy20 hHeld ?rest20
        case hy20 => (intro w hSw; (try dsimp only at hSw); (try obtain ⟨_, _⟩ := hSw); go_simp <;> (try with_reducible rfl))
        try simp only [Act.put, List.setIfInBounds_toArray, List.set_cons_zero, List.set_cons_succ]
        refine Pl.take_l (i := 8) (v := ?v21) rfl (by kernel_rfl) (by kernel_rfl) (by kernel_rfl) (fun _ _ _ h => h) rfl ?hy21 hHeld ?rest21
        case hy21 => (intro w hSw; (try dsimp only at hSw); (try obtain ⟨_, _⟩ := hSw); go_simp <;> (try with_reducible rfl))
        try simp only [Act.put, List.setIfInBounds_toArray, List.set_cons_zero, List.set_cons_succ]
        refine Pl.take_l (i := 9) (v := ?v22) rfl (by kernel_rfl) (by kernel_rfl) (by kernel_rfl) (fun _ _ _ h => h) rfl ?hy22 hHeld ?rest22
        case hy22 => (intro w hSw; (try dsimp only at hSw); (try obtain ⟨_, _⟩ := hSw); go_simp <;> (try with_reducible rfl))
        try simp only [Act.put, List.setIfInBounds_toArray, List.set_cons_zero, List.set_cons_succ]
        refine Pl.alone_l (i := 10) (by kernel_rfl) rfl (fun K hK => ?_)
        go_simp; refine (sf_any X s p ml z.2 ws.drew HMD.out.ps HIR.out (by have := HB.out.1; omega) HB.out.2).mono ?_; rintro e w2 ⟨rfl, X', hp2, ho2, hx2⟩; have HP2 := Lib.hid hp2; have HO2 := Lib.hid ho2; have HX2 := Lib.hid hx2; clear hp2 ho2 hx2; dsimp only
        refine hK.out _ _ (TX.keep HMD.out HS0.out HO2.out) (fun hHeld2 => ?_)
        clear hK K hHeld
        have hHeld := hHeld2
        clear hHeld2
        try simp only [Act.put, List.setIfInBounds_toArray, List.set_cons_zero, List.set_cons_succ]
        refine Pl.take_l (i := 11) (v := ?v23) rfl (by kernel_rfl) (by kernel_rfl) (by kernel_rfl) (fun _ _ _ h => h) rfl ?hy23 hHeld ?rest23
        case hy23 => (intro w hSw; (try dsimp only at hSw); (try obtain ⟨_, _⟩ := hSw); go_simp <;> (try with_reducible rfl))
        try simp only [Act.put, List.setIfInBounds_toArray, List.set_cons_zero, List.set_cons_succ]
        refine Pl.take_l (i := 12) (v := ?v24) rfl (by kernel_rfl) (by kernel_rfl) (by kernel_rfl) (fun _ _ _ h => h) rfl ?hy24 hHeld ?rest24
        case hy24 => (intro w hSw; (try dsimp only at hSw); (try obtain ⟨_, _⟩ := hSw); go_simp <;> (try with_reducible rfl))
        try simp only [Act.put, List.setIfInBounds_toArray, List.set_cons_zero, List.set_cons_succ]
        refine wpAnyH_done (by kernel_rfl) ?_ _
        refine Pl.behind_normal (by decide) ?_
        simp only [List.drop_succ_cons, List.drop_zero]
        clear hHeld
        clear fl1 fl2
        have c3 : w2.cell? ⟨g, 3, none⟩ = some (.int .u32 P0) := TB.cellAt (T := z.1.set 0 (s, (39 : Int), P0)) (HO2.out.keep_bk HMD.out.tb (fun hx => (HMD.out.xs _ hx).2.2 rfl)) (by simpa using hi) (j := 3) (by unfold tkF; rw [HI2.out.2]; rfl)
        have f3 : w2.frozen? ⟨g, 3, none⟩ = false := Bk.frozen (HO2.out.keep_bk HMD.out.tb (fun hx => (HMD.out.xs _ hx).2.2 rfl)) _
        go_wp2_with fail
        go_end0
        obtain ⟨q1, q2⟩ := HS1.out.conv hi HE.out (w1 := ws.drew) (by rw [← HW.out]; exact (Below.refl _ _).drew) HP2.out HO2.out HX2.out (Below.refl _ _)
        exact ⟨rfl, X', by rw [stp_do HCC.out, HE.out]; exact q1, (GO.keep HB1.out).trans q2⟩
end Go.Proofs.YtkphnplmjpjbjabDoor.Sy
