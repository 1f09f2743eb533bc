/-
  One name handled: refused, or turned into a symbol.
-/
import Derived.Test.YtppgilppnnliiaaDoorEn
import Derived.StillTailTactics
import Derived.Deep.DeepCutAuto
import Derived.Maps.OwnIn
namespace Go.Proofs.YtppgilppnnliiaaDoor.Sy
open Go.ChangeShapes Go.WideShapes Go.ChangeAt Go.RowKit Rg
set_option linter.unusedVariables false
/-- a text that is no name -/
def rsv (s : ByteArray) : Bool := ((lowB s).toList == [110, 111, 110, 101]) || lookD (.map cssL) (lowB s)
/-- what handleSingleAnimationName turns into a symbol -/
def cA (ml : Bool) (_ : Nat) (x : TK) : Bool := !((decide (x.2.1 = 29) || (decide (x.2.1 = 36) && !ml)) && rsv x.1)
/-- what handleSingleContainerName turns into a symbol -/
def cC (_ : Nat) (x : TK) : Bool := !rsv x.1
section
variable {B p g i : Nat} {X X' : Nat → Prop} {ml : Bool} {z : List TK × SY} {w w' : World} {s : ByteArray} {K P0 : Int}
theorem ST.off (h : ST B X p ml g z w) {Y : Nat → Prop} (ho : Off Y w w') (hY : ∀ j, Y j → B ≤ j ∧ ¬ X j) {T : List TK} (ht : TB w' g T) : ST B X p ml g (T, z.2) w' :=
  ⟨h.ev.below (ho.below (fun j hj => (hY j hj).1) h.ev.size), h.ps.off ho (fun j hj hy => (hY j hy).2 hj), ht, h.bg, fun j hj => ⟨(h.xs j hj).1, Nat.lt_of_lt_of_le (h.xs j hj).2.1 ho.2.2.2.1, (h.xs j hj).2.2⟩⟩
theorem ST.setC (h : ST B X p ml g z w) {o : Nat} {u : Value} {T : List TK} (ht : TB (w.setCell ⟨g, o, none⟩ u) g T) : ST B X p ml g (T, z.2) (w.setCell ⟨g, o, none⟩ u) ∧ GO X g w X (w.setCell ⟨g, o, none⟩ u) :=
  ⟨h.off (Y := fun j => j = g) (Off.of_setCell w g o u rfl) (fun j hj => by subst hj; exact ⟨h.bg, fun hx => (h.xs _ hx).2.2 rfl⟩) ht, ⟨Off.of_setCell w g o u (.inr rfl), fun _ hj => .inl hj⟩⟩
theorem ST.mark (h : ST B X p ml g z w) (hi : i < z.1.length) (he : z.1.getD i tk0 = (s, K, P0)) : ST B X p ml g (z.1.set i (s, 39, P0), z.2) (w.setCell ⟨g, i * 7 + 5, none⟩ (.int .u8 39)) ∧ GO X g w X (w.setCell ⟨g, i * 7 + 5, none⟩ (.int .u8 39)) := by
  have := h.tb.setK hi 39
  rw [he] at this
  exact h.setC this
theorem ST.pay (h : ST B X p ml g z w) (hi : i < z.1.length) (he : z.1.getD i tk0 = (s, K, P0)) (P : Int) : ST B X p ml g (z.1.set i (s, K, P), z.2) (w.setCell ⟨g, i * 7 + 3, none⟩ (.int .u32 P)) ∧ GO X g w X (w.setCell ⟨g, i * 7 + 3, none⟩ (.int .u32 P)) :=
  h.setC (h.tb.setP' hi he P)
theorem ST.sym (h : ST B X p ml g z w) {S' : SY} (hp : PS w' X' p ml S') (ho : Off X w w') (hx : ∀ j, X' j → X j ∨ (w.heap.size ≤ j ∧ j < w'.heap.size)) : ST B X' p ml g (z.1, S') w' ∧ GO X g w X' w' := by
  refine ⟨⟨h.ev.below (ho.below (fun j hj => (h.xs j hj).1) h.ev.size), hp, ho.keep_bk h.tb (fun hx => (h.xs _ hx).2.2 rfl), h.bg, fun j hj => ?_⟩, ?_, fun j hj => (hx j hj).imp id And.left⟩
  · rcases hx j hj with h1 | ⟨h1, h2⟩
    · exact ⟨(h.xs j h1).1, Nat.lt_of_lt_of_le (h.xs j h1).2.1 ho.2.2.2.1, (h.xs j h1).2.2⟩
    · have := h.ev.size
      have hg := h.tb.lt
      exact ⟨by omega, h2, by omega⟩
  · exact ⟨ho.1, ho.2.1, ho.2.2.1, ho.2.2.2.1, fun j hj hn => ho.2.2.2.2 j hj fun e => hn (.inl e)⟩
/-- what is read of a token -/
def TX (g i : Nat) (s : ByteArray) (w : World) : Prop := w.cell? ⟨g, i * 7 + 1, none⟩ = some (.string s) ∧ w.cell? ⟨g, i * 7 + 2, none⟩ = some (.int .i32 0)
theorem TX.keep (hs : ST B X p ml g z w) (h : TX g i s w) (ho : Off X w w') : TX g i s w' := by
  have e := ho.2.2.2.2 g hs.tb.lt (fun hx => (hs.xs _ hx).2.2 rfl)
  unfold TX World.cell? at h ⊢
  rw [e]
  exact h
theorem set_len (T : List TK) (x : TK) : (T.set i x).length = T.length := by simp
/-- the three turns together -/
theorem ST.conv {w1 w2 w3 : World} (h : ST B X p ml g z w) (hi : i < z.1.length) (he : z.1.getD i tk0 = (s, K, P0)) (h1 : Below (w.setCell ⟨g, i * 7 + 5, none⟩ (.int .u8 39)).heap.size (w.setCell ⟨g, i * 7 + 5, none⟩ (.int .u8 39)) w1)
    (hp : PS w2 X' p ml (addS s z.2)) (ho : Off X w1 w2) (hx : ∀ j, X' j → X j ∨ (w1.heap.size ≤ j ∧ j < w2.heap.size)) (h3 : Below (w2.setCell ⟨g, i * 7 + 3, none⟩ (.int .u32 (plS s z.2 : Int))).heap.size (w2.setCell ⟨g, i * 7 + 3, none⟩ (.int .u32 (plS s z.2 : Int))) w3) :
    ST B X' p ml g (z.1.set i (s, 39, (plS s z.2 : Int)), addS s z.2) w3 ∧ GO X g w X' w3 := by
  obtain ⟨a1, a2⟩ := h.mark hi he
  obtain ⟨b1, b2⟩ := (a1.keep h1).sym hp ho hx
  obtain ⟨c1, c2⟩ := b1.pay (i := i) (s := s) (K := 39) (P0 := P0) (by simpa using hi) (getD_set_eq hi) (plS s z.2 : Int)
  simp only [List.set_set] at c1
  exact ⟨c1.keep h3, ((((a2.trans (GO.keep h1)).trans b2).trans c2).trans (GO.keep h3))⟩
end
set_option maxRecDepth 100000 in
set_option maxHeartbeats 1000000 in
theorem inv_any {B : Nat} (s : ByteArray) (w : World) (hs : (s.size : Int) ≤ 1048576) (h : EV B w) :
    Calls Tryd.prog 25 #[.string s] w fun e w' => e = .returned (.bool (rsv s)) ∧ Below w.heap.size w w' := by
  have H := Lib.hid h
  have hl := low_len s
  clear h
  go_enter Tryd.func25, Tryd.ntmps25
  go_wp2_with fail
  refine (low_any s w hs H.out.tl).mono ?_
  rintro e w1 ⟨rfl, hb⟩
  have hz : (lowB s).size ≤ maxLen := by unfold maxLen; omega
  obtain ⟨b, hc, hr⟩ := (H.out.keep hb).mv.run (lowB s) hz
  have HR := Lib.hid hr
  have HB := Lib.hid hb
  have hc2 : w1.cell? ⟨0, 0, none⟩ = some (.map (some b)) := hc
  obtain ⟨u, hu⟩ : ∃ u, lowB s = u := ⟨_, rfl⟩
  have hv : rsv s = ((u.toList == [110, 111, 110, 101]) || lookD (.map cssL) u) := by rw [rsv, hu]
  rw [hu] at HR ⊢
  clear hr hb hl hc hz hu
  rcases Bool.eq_false_or_eq_true (u.toList == [110, 111, 110, 101]) with g1 | g1
  · rw [g1, Bool.true_or] at hv
    have HV := Lib.hid hv
    clear hv
    go_wp2_with fail
    all_goals go_ret
    all_goals exact ⟨by rw [HV.out]; rfl, HB.out⟩
  · rw [g1, Bool.false_or] at hv
    have HV := Lib.hid hv
    clear hv
    go_wp2_with (at_lookup; refine wpl_lookup_g _ (by rfl) _ _ _ _ rfl _ _ _ rfl rfl HR.out ?_)
    all_goals go_ret
    all_goals exact ⟨by rw [HV.out]; rfl, HB.out⟩
theorem fld1 (n : Int) (w : World) : (Instr.field 107 (.agg #[.int .i32 0, .int .u32 0, .int .u32 n]) 1).run Tryd.prog w = .ok (.agg #[.int .u32 0, .int .u32 n]) w := by kernel_rfl
theorem fld2 (n : Int) (w : World) : (Instr.field 105 (.agg #[.int .u32 0, .int .u32 n]) 1).run Tryd.prog w = .ok (.int .u32 n) w := by kernel_rfl
set_option maxRecDepth 100000 in
set_option maxHeartbeats 1000000 in
theorem ha_any {B : Nat} {X : Nat → Prop} (p g i : Nat) (ml : Bool) (z : List TK × SY) (w : World) (h : ST B X p ml g z w) (hi : i < z.1.length) (hb : SBd 2000000 z.2) (hs : ((z.1.getD i tk0).1.size : Int) ≤ 1048576) :
    Calls Tryd.prog 18 #[.pointer (some ⟨p, 0, none⟩), .pointer (some ⟨g, i * 7, none⟩)] w fun e w' => e = .returned (.tuple #[]) ∧ ∃ X' : Nat → Prop, ST B X' p ml g (stp (cA ml) i z) w' ∧ GO X g w X' w' := by
  obtain ⟨⟨s, K, P0⟩, he⟩ : ∃ x, z.1.getD i tk0 = x := ⟨_, rfl⟩
  rw [he] at hs
  have hc : cA ml i (z.1.getD i tk0) = !((decide (K = 29) || (decide (K = 36) && !ml)) && rsv s) := by rw [he]; rfl
  have HC := Lib.hid hc
  have HE := Lib.hid he
  have HS := Lib.hid h
  have HB := Lib.hid hb
  have hf : ∀ j : Nat, (tkF z.1 i)[j]? = (tkR (s, K, P0))[j]? := fun j => by unfold tkF; rw [he]
  have c1 := h.tb.cellAt hi ((hf 1).trans rfl)
  have c2 := h.tb.cellAt hi ((hf 2).trans rfl)
  have c5 := h.tb.cellAt hi ((hf 5).trans rfl)
  have f5 := Bk.frozen h.tb (i * 7 + 5)
  obtain ⟨v, v2, m1, m2, hp, hX⟩ := h.ps
  have c54 := hp.c54
  clear hp hX h hc he hb hf
  go_enter Tryd.func18, Tryd.ntmps18
  go_upto_region 0 with fail
  go_cut [29] (fun s29 wc => s29 = .bool (!cA ml i (z.1.getD i tk0)) ∧ Hid (Below w.heap.size w wc))
  case first =>
    have HN := Lib.hid (show (!cA ml i (z.1.getD i tk0)) = ((decide (K = 29) || (decide (K = 36) && !ml)) && rsv s) by rw [HC.out, Bool.not_not])
    clear HC
    by_cases k1 : K = 29
    · subst k1
      go_wp2_with fail
      refine (inv_any s w hs HS.out.ev).mono ?_
      rintro e w1 ⟨rfl, hb⟩
      have HB1 := Lib.hid hb
      clear hb
      go_wp2_with fail
      go_meet
      exact ⟨by rw [HN.out]; simp, HB1⟩
    by_cases k2 : K = 36
    · subst k2
      cases ml with
      | false =>
        go_wp2_with fail
        refine (inv_any s w hs HS.out.ev).mono ?_
        rintro e w1 ⟨rfl, hb⟩
        have HB1 := Lib.hid hb
        clear hb
        go_wp2_with fail
        go_meet
        exact ⟨by rw [HN.out]; simp, HB1⟩
      | true =>
        go_wp2_with fail
        go_meet
        exact ⟨by rw [HN.out]; simp, Lib.hid (Below.refl _ _)⟩
    · go_wp2_with fail
      go_meet
      exact ⟨by rw [HN.out]; simp [k1, k2], Lib.hid (Below.refl _ _)⟩
  case rest =>
    obtain ⟨rfl, HB1⟩ := hcut
    have HS1 := Lib.hid (HS.out.keep HB1.out)
    have d1 := later HB1.out c1
    have d2 := later HB1.out c2
    have d5 := later HB1.out c5
    have f5' := Bk.frozen HS1.out.tb (i * 7 + 5)
    clear c1 c2 c5 f5 c54
    cases hcc : cA ml i (z.1.getD i tk0) with
    | false =>
      go_wp2_with fail
      (try simp only [Exit.inBlock, Exit.then]); refine bodyPost_ret (results_none rfl _ _ _) rfl ?_
      exact ⟨rfl, X, by rw [stp_not hcc]; exact HS1.out, GO.keep HB1.out⟩
    | true =>
      have HCC := Lib.hid hcc
      clear hcc
      go_upto_region 2 with fail
      obtain ⟨ws, hws⟩ : ∃ ws, ws = wc.setCell ⟨g, i * 7 + 5, none⟩ (.int .u8 39) := ⟨_, rfl⟩
      obtain ⟨hm1, hm2⟩ := HS1.out.mark hi HE.out
      rw [← hws] at hm1 hm2 ⊢
      have HW := Lib.hid hws
      have HM := Lib.hid hm1
      have HM2 := Lib.hid hm2
      have hg : (z.1.set i (s, (39 : Int), P0)).getD i tk0 = (s, 39, P0) := getD_set_eq hi
      have hi2 : i < (z.1.set i (s, (39 : Int), P0)).length := by simpa using hi
      have hf : ∀ j : Nat, (tkF (z.1.set i (s, (39 : Int), P0)) i)[j]? = (tkR (s, 39, P0))[j]? := fun j => by unfold tkF; rw [hg]
      have c1 := hm1.tb.cellAt hi2 ((hf 1).trans rfl)
      have c2 := hm1.tb.cellAt hi2 ((hf 2).trans rfl)
      have HI2 := Lib.hid (And.intro hi2 hg)
      clear hws hm1 hm2 d1 d2 d5 f5' hg hi2 hf
      have HS0 := Lib.hid (show TX g i s ws.drew from ⟨c1, c2⟩)
      have HMD := Lib.hid (show ST B X p ml g (z.1.set i (s, (39 : Int), P0), z.2) ws.drew from HM.out.keep (Below.refl _ _).drew)
      have HIR := Lib.hid HMD.out.ev.ir
      clear c1 c2
      have fl1 := fun w => fld1 (plS s z.2 : Int) w
      have fl2 := fun w => fld2 (plS s z.2 : Int) w
      refine Pl.wp_region_split (TX g i s) 13 (by kernel_rfl) (by kernel_rfl) ?_
      simp only [List.take_succ_cons, List.take_zero]
      have hHeld := HS0.out
      refine Pl.take_l (i := 0) (v := ?v16) rfl (by kernel_rfl) (by kernel_rfl) (by kernel_rfl) (fun _ _ _ h => h) rfl ?hy16 hHeld ?rest16
      case hy16 => (intro w hSw; (try dsimp only at hSw); (try obtain ⟨_, _⟩ := hSw); go_simp <;> (try with_reducible rfl))
      try simp only [Act.put, List.setIfInBounds_toArray, List.set_cons_zero, List.set_cons_succ]
      refine Pl.take_l (i := 1) (v := ?v17) rfl (by kernel_rfl) (by kernel_rfl) (by kernel_rfl) (fun _ _ _ h => h) rfl ?hy17 hHeld ?rest17
      case hy17 => (intro w hSw; (try dsimp only at hSw); (try obtain ⟨_, _⟩ := hSw); go_simp <;> (try with_reducible rfl))
      try simp only [Act.put, List.setIfInBounds_toArray, List.set_cons_zero, List.set_cons_succ]
      refine Pl.take_l (i := 2) (v := ?v18) rfl (by kernel_rfl) (by kernel_rfl) (by kernel_rfl) (fun _ _ _ h => h) rfl ?hy18 hHeld ?rest18
      case hy18 => (intro w hSw; (try dsimp only at hSw); (try obtain ⟨_, _⟩ := hSw); go_simp <;> (try with_reducible rfl))
      try simp only [Act.put, List.setIfInBounds_toArray, List.set_cons_zero, List.set_cons_succ]
      refine Pl.take_l (i := 3) (v := ?v19) rfl (by kernel_rfl) (by kernel_rfl) (by kernel_rfl) (fun _ _ _ h => h) rfl ?hy19 hHeld ?rest19
      case hy19 => (intro w hSw; (try dsimp only at hSw); (try obtain ⟨_, _⟩ := hSw); go_simp <;> (try with_reducible rfl))
      try simp only [Act.put, List.setIfInBounds_toArray, List.set_cons_zero, List.set_cons_succ]
      refine Pl.take_l (i := 4) (v := ?v20) rfl (by kernel_rfl) (by kernel_rfl) (by kernel_rfl) (fun _ _ _ h => h) rfl ?hy20 hHeld ?rest20
      case hy20 => (intro w hSw; (try dsimp only at hSw); (try obtain ⟨_, _⟩ := hSw); go_simp <;> (try with_reducible rfl))
      try simp only [Act.put, List.setIfInBounds_toArray, List.set_cons_zero, List.set_cons_succ]
      refine Pl.take_l (i := 5) (v := ?v21) rfl (by kernel_rfl) (by kernel_rfl) (by kernel_rfl) (fun _ _ _ h => h) rfl ?hy21 hHeld ?rest21
      case hy21 => (intro w hSw; (try dsimp only at hSw); (try obtain ⟨_, _⟩ := hSw); go_simp <;> (try with_reducible rfl))
      try simp only [Act.put, List.setIfInBounds_toArray, List.set_cons_zero, List.set_cons_succ]
      refine Pl.take_l (i := 6) (v := ?v22) rfl (by kernel_rfl) (by kernel_rfl) (by kernel_rfl) (fun _ _ _ h => h) rfl ?hy22 hHeld ?rest22
      case hy22 => (intro w hSw; (try dsimp only at hSw); (try obtain ⟨_, _⟩ := hSw); go_simp <;> (try with_reducible rfl))
      try simp only [Act.put, List.setIfInBounds_toArray, List.set_cons_zero, List.set_cons_succ]
      refine Pl.take_l (i := 7) (v := ?v23) rfl (by kernel_rfl) (by kernel_rfl) (by kernel_rfl) (fun _ _ _ h => h) rfl ?hy23 hHeld ?rest23
      case hy23 => (intro w hSw; (try dsimp only at hSw); (try obtain ⟨_, _⟩ := hSw); go_simp <;> (try with_reducible rfl))
      try simp only [Act.put, List.setIfInBounds_toArray, List.set_cons_zero, List.set_cons_succ]
      refine Pl.take_l (i := 8) (v := ?v24) rfl (by kernel_rfl) (by kernel_rfl) (by kernel_rfl) (fun _ _ _ h => h) rfl ?hy24 hHeld ?rest24
      case hy24 => (intro w hSw; (try dsimp only at hSw); (try obtain ⟨_, _⟩ := hSw); go_simp <;> (try with_reducible rfl))
      try simp only [Act.put, List.setIfInBounds_toArray, List.set_cons_zero, List.set_cons_succ]
      refine Pl.take_l (i := 9) (v := ?v25) rfl (by kernel_rfl) (by kernel_rfl) (by kernel_rfl) (fun _ _ _ h => h) rfl ?hy25 hHeld ?rest25
      case hy25 => (intro w hSw; (try dsimp only at hSw); (try obtain ⟨_, _⟩ := hSw); go_simp <;> (try with_reducible rfl))
      try simp only [Act.put, List.setIfInBounds_toArray, List.set_cons_zero, List.set_cons_succ]
      refine Pl.alone_l (i := 10) (by kernel_rfl) rfl (fun K hK => ?_)
      go_simp; refine (sf_any X s p ml z.2 ws.drew HMD.out.ps HIR.out (by have := HB.out.1; omega) HB.out.2).mono ?_; rintro e w2 ⟨rfl, X', hp2, ho2, hx2⟩; have HP2 := Lib.hid hp2; have HO2 := Lib.hid ho2; have HX2 := Lib.hid hx2; clear hp2 ho2 hx2; dsimp only
      refine hK.out _ _ (TX.keep HMD.out HS0.out HO2.out) (fun hHeld2 => ?_)
      clear hK K hHeld
      have hHeld := hHeld2
      clear hHeld2
      try simp only [Act.put, List.setIfInBounds_toArray, List.set_cons_zero, List.set_cons_succ]
      refine Pl.take_l (i := 11) (v := ?v26) rfl (by kernel_rfl) (by kernel_rfl) (by kernel_rfl) (fun _ _ _ h => h) rfl ?hy26 hHeld ?rest26
      case hy26 => (intro w hSw; (try dsimp only at hSw); (try obtain ⟨_, _⟩ := hSw); go_simp <;> (try with_reducible rfl))
      try simp only [Act.put, List.setIfInBounds_toArray, List.set_cons_zero, List.set_cons_succ]
      refine Pl.take_l (i := 12) (v := ?v27) rfl (by kernel_rfl) (by kernel_rfl) (by kernel_rfl) (fun _ _ _ h => h) rfl ?hy27 hHeld ?rest27
      case hy27 => (intro w hSw; (try dsimp only at hSw); (try obtain ⟨_, _⟩ := hSw); go_simp <;> (try with_reducible rfl))
      try simp only [Act.put, List.setIfInBounds_toArray, List.set_cons_zero, List.set_cons_succ]
      refine wpAnyH_done (by kernel_rfl) ?_ _
      refine Pl.behind_normal (by decide) ?_
      simp only [List.drop_succ_cons, List.drop_zero]
      clear hHeld
      clear fl1 fl2
      have c3 : w2.cell? ⟨g, i * 7 + 3, none⟩ = some (.int .u32 P0) := TB.cellAt (T := z.1.set i (s, (39 : Int), P0)) (HO2.out.keep_bk HMD.out.tb (fun hx => (HMD.out.xs _ hx).2.2 rfl)) (by simpa using hi) (j := 3) (by unfold tkF; rw [HI2.out.2]; rfl)
      have f3 : w2.frozen? ⟨g, i * 7 + 3, none⟩ = false := Bk.frozen (HO2.out.keep_bk HMD.out.tb (fun hx => (HMD.out.xs _ hx).2.2 rfl)) _
      go_wp2_with fail
      go_end0
      obtain ⟨q1, q2⟩ := HS1.out.conv hi HE.out (w1 := ws.drew) (by rw [← HW.out]; exact (Below.refl _ _).drew) HP2.out HO2.out HX2.out (Below.refl _ _)
      exact ⟨rfl, X', by rw [stp_do HCC.out, HE.out]; exact q1, (GO.keep HB1.out).trans q2⟩
end Go.Proofs.YtppgilppnnliiaaDoor.Sy
