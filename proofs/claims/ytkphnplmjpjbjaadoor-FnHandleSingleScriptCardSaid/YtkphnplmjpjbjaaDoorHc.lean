/-
  handleSingleContainerName.
-/
import Derived.Test.YtkphnplmjpjbjaaDoorHs
namespace Go.Proofs.YtkphnplmjpjbjaaDoor.Sy
open Go.ChangeShapes Go.WideShapes Go.ChangeAt Go.RowKit Rg
set_option linter.unusedVariables false
set_option maxRecDepth 100000 in
set_option maxHeartbeats 1000000 in
theorem hc_any {B : Nat} {X : Nat → Prop} (p g i : Nat) (ml : Bool) (z : List TK × SY) (w : World) (h : ST B X p ml g z w) (hi : i < z.1.length) (hb : SBd 2000000 z.2) (hs : ((z.1.getD i tk0).1.size : Int) ≤ 1048576) :
    Calls Tryd.prog 14 #[.pointer (some ⟨p, 0, none⟩), .pointer (some ⟨g, i * 7, none⟩)] w fun e w' => e = .returned (.tuple #[]) ∧ ∃ X' : Nat → Prop, ST B X' p ml g (stp cC i z) w' ∧ GO X g w X' w' := by
  obtain ⟨⟨s, K, P0⟩, he⟩ : ∃ x, z.1.getD i tk0 = x := ⟨_, rfl⟩
  rw [he] at hs
  have hc : cC i (z.1.getD i tk0) = !rsv s := by rw [he]; rfl
  have HC := Lib.hid hc
  have HE := Lib.hid he
  have HS := Lib.hid h
  have HB := Lib.hid hb
  have hf : ∀ j : Nat, (tkF z.1 i)[j]? = (tkR (s, K, P0))[j]? := fun j => by unfold tkF; rw [he]
  have c1 := h.tb.cellAt hi ((hf 1).trans rfl)
  have c2 := h.tb.cellAt hi ((hf 2).trans rfl)
  have c5 := h.tb.cellAt hi ((hf 5).trans rfl)
  have f5 := Bk.frozen h.tb (i * 7 + 5)
  obtain ⟨v, v2, m1, m2, hp, hX⟩ := h.ps
  have c54 := hp.c54
  clear hp hX h hc he hb hf
  go_enter Tryd.func14, Tryd.ntmps14
  go_wp2_with fail
  refine (low_any s w hs HS.out.ev.tl).mono ?_
  rintro e wc ⟨rfl, hb⟩
  have hz : (lowB s).size ≤ maxLen := by have hl := low_len s; unfold maxLen; (try simp only at hs); omega
  obtain ⟨b, hcm, hr⟩ := (HS.out.ev.keep hb).mv.run (lowB s) hz
  have HR := Lib.hid hr
  have HB1 := Lib.hid hb
  have hc2 : wc.cell? ⟨0, 0, none⟩ = some (.map (some b)) := hcm
  have HS1 := Lib.hid (HS.out.keep HB1.out)
  have d1 := later HB1.out c1
  have d2 := later HB1.out c2
  have d5 := later HB1.out c5
  have f5' := Bk.frozen HS1.out.tb (i * 7 + 5)
  clear c1 c2 c5 f5 c54 hr hb hcm hz
  obtain ⟨u, hu⟩ : ∃ u, lowB s = u := ⟨_, rfl⟩
  have hv : rsv s = ((u.toList == [110, 111, 110, 101]) || lookD (.map cssL) u) := by rw [rsv, hu]
  rw [hu] at HR ⊢
  clear hu
  rcases Bool.eq_false_or_eq_true (u.toList == [110, 111, 110, 101]) with g1 | g1
  · rw [g1, Bool.true_or] at hv
    have HCC := Lib.hid (show cC i (z.1.getD i tk0) = false by rw [HC.out, hv]; rfl)
    clear hv HC
    go_wp2_with fail
    (try simp only [Exit.inBlock, Exit.then]); refine bodyPost_ret (results_none rfl _ _ _) rfl ?_
    exact ⟨rfl, X, by rw [stp_not HCC.out]; exact HS1.out, GO.keep HB1.out⟩
  · rw [g1, Bool.false_or] at hv
    obtain ⟨v, hv2⟩ : ∃ v, lookD (.map cssL) u = v := ⟨_, rfl⟩
    rw [hv2] at hv HR
    have HV := Lib.hid hv
    clear hv hv2
    cases v with
    | true =>
      have HCC := Lib.hid (show cC i (z.1.getD i tk0) = false by rw [HC.out, HV.out]; rfl)
      go_wp2_with (at_lookup; refine wpl_lookup_g _ (by rfl) _ _ _ _ rfl _ _ _ rfl rfl HR.out ?_)
      (try simp only [Exit.inBlock, Exit.then]); refine bodyPost_ret (results_none rfl _ _ _) rfl ?_
      exact ⟨rfl, X, by rw [stp_not HCC.out]; exact HS1.out, GO.keep HB1.out⟩
    | false =>
      have HCC := Lib.hid (show cC i (z.1.getD i tk0) = true by rw [HC.out, HV.out]; rfl)
      go_upto_region 3 with (at_lookup; refine wpl_lookup_g _ (by rfl) _ _ _ _ rfl _ _ _ rfl rfl HR.out ?_)
      obtain ⟨ws, hws⟩ : ∃ ws, ws = wc.setCell ⟨g, i * 7 + 5, none⟩ (.int .u8 39) := ⟨_, rfl⟩
      obtain ⟨hm1, hm2⟩ := HS1.out.mark hi HE.out
      rw [← hws] at hm1 hm2 ⊢
      have HW := Lib.hid hws
      have HM := Lib.hid hm1
      have HM2 := Lib.hid hm2
      have hg : (z.1.set i (s, (39 : Int), P0)).getD i tk0 = (s, 39, P0) := getD_set_eq hi
      have hi2 : i < (z.1.set i (s, (39 : Int), P0)).length := by simpa using hi
      have hf : ∀ j : Nat, (tkF (z.1.set i (s, (39 : Int), P0)) i)[j]? = (tkR (s, 39, P0))[j]? := fun j => by unfold tkF; rw [hg]
      have c1 := hm1.tb.cellAt hi2 ((hf 1).trans rfl)
      have c2 := hm1.tb.cellAt hi2 ((hf 2).trans rfl)
      have HI2 := Lib.hid (And.intro hi2 hg)
      clear hws hm1 hm2 d1 d2 d5 f5' hg hi2 hf
      have HS0 := Lib.hid (show TX g i s ws.drew from ⟨c1, c2⟩)
      have HMD := Lib.hid (show ST B X p ml g (z.1.set i (s, (39 : Int), P0), z.2) ws.drew from HM.out.keep (Below.refl _ _).drew)
      have HIR := Lib.hid HMD.out.ev.ir
      clear c1 c2
      have fl1 := fun w => fld1 (plS s z.2 : Int) w
      have fl2 := fun w => fld2 (plS s z.2 : Int) w
      refine Pl.wp_region_split (TX g i s) 13 (by kernel_rfl) (by kernel_rfl) ?_
      simp only [List.take_succ_cons, List.take_zero]
      have hHeld := HS0.out
      refine Pl.take_l (i := 0) (v := ?v1) rfl (by kernel_rfl) (by kernel_rfl) (by kernel_rfl) (fun _ _ _ h => h) rfl ?hy1 hHeld ?rest1
      case hy1 => (intro w hSw; (try dsimp only at hSw); (try obtain ⟨_, _⟩ := hSw); go_simp <;> (try with_reducible rfl))
      try simp only [Act.put, List.setIfInBounds_toArray, List.set_cons_zero, List.set_cons_succ]
      refine Pl.take_l (i := 1) (v := ?v2) rfl (by kernel_rfl) (by kernel_rfl) (by kernel_rfl) (fun _ _ _ h => h) rfl ?hy2 hHeld ?rest2
      case hy2 => (intro w hSw; (try dsimp only at hSw); (try obtain ⟨_, _⟩ := hSw); go_simp <;> (try with_reducible rfl))
      try simp only [Act.put, List.setIfInBounds_toArray, List.set_cons_zero, List.set_cons_succ]
      refine Pl.take_l (i := 2) (v := ?v3) rfl (by kernel_rfl) (by kernel_rfl) (by kernel_rfl) (fun _ _ _ h => h) rfl ?hy3 hHeld ?rest3
      case hy3 => (intro w hSw; (try dsimp only at hSw); (try obtain ⟨_, _⟩ := hSw); go_simp <;> (try with_reducible rfl))
      try simp only [Act.put, List.setIfInBounds_toArray, List.set_cons_zero, List.set_cons_succ]
      refine Pl.take_l (i := 3) (v := ?v4) rfl (by kernel_rfl) (by kernel_rfl) (by kernel_rfl) (fun _ _ _ h => h) rfl ?hy4 hHeld ?rest4
      case hy4 => (intro w hSw; (try dsimp only at hSw); (try obtain ⟨_, _⟩ := hSw); go_simp <;> (try with_reducible rfl))
      try simp only [Act.put, List.setIfInBounds_toArray, List.set_cons_zero, List.set_cons_succ]
      refine Pl.take_l (i := 4) (v := ?v5) rfl (by kernel_rfl) (by kernel_rfl) (by kernel_rfl) (fun _ _ _ h => h) rfl ?hy5 hHeld ?rest5
      case hy5 => (intro w hSw; (try dsimp only at hSw); (try obtain ⟨_, _⟩ := hSw); go_simp <;> (try with_reducible rfl))
      try simp only [Act.put, List.setIfInBounds_toArray, List.set_cons_zero, List.set_cons_succ]
      refine Pl.take_l (i := 5) (v := ?v6) rfl (by kernel_rfl) (by kernel_rfl) (by kernel_rfl) (fun _ _ _ h => h) rfl ?hy6 hHeld ?rest6
      case hy6 => (intro w hSw; (try dsimp only at hSw); (try obtain ⟨_, _⟩ := hSw); go_simp <;> (try with_reducible rfl))
      try simp only [Act.put, List.setIfInBounds_toArray, List.set_cons_zero, List.set_cons_succ]
      refine Pl.take_l (i := 6) (v := ?v7) rfl (by kernel_rfl) (by kernel_rfl) (by kernel_rfl) (fun _ _ _ h => h) rfl ?hy7 hHeld ?rest7
      case hy7 => (intro w hSw; (try dsimp only at hSw); (try obtain ⟨_, _⟩ := hSw); go_simp <;> (try with_reducible rfl))
      try simp only [Act.put, List.setIfInBounds_toArray, List.set_cons_zero, List.set_cons_succ]
      refine Pl.take_l (i := 7) (v := ?v8) rfl (by kernel_rfl) (by kernel_rfl) (by kernel_rfl) (fun _ _ _ h => h) rfl ?hy8 hHeld ?rest8
      case hy8 => (intro w hSw; (try dsimp only at hSw); (try obtain ⟨_, _⟩ := hSw); go_simp <;> (try with_reducible rfl))
      try simp only [Act.put, List.setIfInBounds_toArray, List.set_cons_zero, List.set_cons_succ]
      refine Pl.take_l (i := 8) (v := ?v9) rfl (by kernel_rfl) (by kernel_rfl) (by kernel_rfl) (fun _ _ _ h => h) rfl ?hy9 hHeld ?rest9
      case hy9 => (intro w hSw; (try dsimp only at hSw); (try obtain ⟨_, _⟩ := hSw); go_simp <;> (try with_reducible rfl))
      try simp only [Act.put, List.setIfInBounds_toArray, List.set_cons_zero, List.set_cons_succ]
      refine Pl.take_l (i := 9) (v := ?v10) rfl (by kernel_rfl) (by kernel_rfl) (by kernel_rfl) (fun _ _ _ h => h) rfl ?hy10 hHeld ?rest10
      case hy10 => (intro w hSw; (try dsimp only at hSw); (try obtain ⟨_, _⟩ := hSw); go_simp <;> (try with_reducible rfl))
      try simp only [Act.put, List.setIfInBounds_toArray, List.set_cons_zero, List.set_cons_succ]
      refine Pl.alone_l (i := 10) (by kernel_rfl) rfl (fun K hK => ?_)
      go_simp; refine (sf_any X s p ml z.2 ws.drew HMD.out.ps HIR.out (by have := HB.out.1; omega) HB.out.2).mono ?_; rintro e w2 ⟨rfl, X', hp2, ho2, hx2⟩; have HP2 := Lib.hid hp2; have HO2 := Lib.hid ho2; have HX2 := Lib.hid hx2; clear hp2 ho2 hx2; dsimp only
      refine hK.out _ _ (TX.keep HMD.out HS0.out HO2.out) (fun hHeld2 => ?_)
      clear hK K hHeld
      have hHeld := hHeld2
      clear hHeld2
      try simp only [Act.put, List.setIfInBounds_toArray, List.set_cons_zero, List.set_cons_succ]
      refine Pl.take_l (i := 11) (v := ?v11) rfl (by kernel_rfl) (by kernel_rfl) (by kernel_rfl) (fun _ _ _ h => h) rfl ?hy11 hHeld ?rest11
      case hy11 => (intro w hSw; (try dsimp only at hSw); (try obtain ⟨_, _⟩ := hSw); go_simp <;> (try with_reducible rfl))
      try simp only [Act.put, List.setIfInBounds_toArray, List.set_cons_zero, List.set_cons_succ]
      refine Pl.take_l (i := 12) (v := ?v12) rfl (by kernel_rfl) (by kernel_rfl) (by kernel_rfl) (fun _ _ _ h => h) rfl ?hy12 hHeld ?rest12
      case hy12 => (intro w hSw; (try dsimp only at hSw); (try obtain ⟨_, _⟩ := hSw); go_simp <;> (try with_reducible rfl))
      try simp only [Act.put, List.setIfInBounds_toArray, List.set_cons_zero, List.set_cons_succ]
      refine wpAnyH_done (by kernel_rfl) ?_ _
      refine Pl.behind_normal (by decide) ?_
      simp only [List.drop_succ_cons, List.drop_zero]
      clear hHeld
      clear fl1 fl2
      have c3 : w2.cell? ⟨g, i * 7 + 3, none⟩ = some (.int .u32 P0) := TB.cellAt (T := z.1.set i (s, (39 : Int), P0)) (HO2.out.keep_bk HMD.out.tb (fun hx => (HMD.out.xs _ hx).2.2 rfl)) (by simpa using hi) (j := 3) (by unfold tkF; rw [HI2.out.2]; rfl)
      have f3 : w2.frozen? ⟨g, i * 7 + 3, none⟩ = false := Bk.frozen (HO2.out.keep_bk HMD.out.tb (fun hx => (HMD.out.xs _ hx).2.2 rfl)) _
      go_wp2_with fail
      go_end0
      obtain ⟨q1, q2⟩ := HS1.out.conv hi HE.out (w1 := ws.drew) (by rw [← HW.out]; exact (Below.refl _ _).drew) HP2.out HO2.out HX2.out (Below.refl _ _)
      exact ⟨rfl, X', by rw [stp_do HCC.out, HE.out]; exact q1, (GO.keep HB1.out).trans q2⟩
end Go.Proofs.YtkphnplmjpjbjaaDoor.Sy
