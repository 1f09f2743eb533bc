/-
  parseAnyValue stops where the machine stops.
-/
import Derived.Test.YtelpdhhcpdagbabFmtPs
import Derived.Deep.LoopGhost
import Derived.BigFrame
import Derived.Deep.Cut
import Derived.Great.BuildSlice
import Derived.WalkMore
import Derived.Deep.QuietTactic
import Derived.BigQuiet
namespace Go.Proofs.YtelpdhhcpdagbabFmt.Av
open Go.ChangeShapes Go.WideShapes Go.ChangeAt Go.RowKit Rg
set_option linter.unusedVariables false
def ints8 (l : List Int) : List Value := l.map (fun k => .int .u8 k)
/-- the parser at cursor t, its stack of closers st -/
def SS (b g n : Nat) (S L K : Nat → Int) (C : ByteArray) (t : Nat) (v : Value) (st : List Int) (w0 w : World) : Prop :=
  PT b g n S L K C t v w ∧ w.ownsRow w0.heap.size 34 1 v st.length (ints8 st.reverse) ∧ w0.grownBy w (some b) ∧ b < w0.heap.size ∧ g < w0.heap.size
theorem own_form {w : World} {B : Nat} {e : TypeId} {s n : Nat} {v : Value} {xs : List Value} (h : w.ownsRow B e s v n xs) : ∃ a c, v = .slice a n c := by
  rcases h.2 with ⟨rfl, rfl⟩ | ⟨g, cap, cur, rfl, _⟩ <;> exact ⟨_, _, rfl⟩
section
variable {b g n : Nat} {S L K : Nat → Int} {C : ByteArray} {t : Nat} {v : Value} {st : List Int} {w0 w w' : World}
theorem SS.ne (h : SS b g n S L K C t v st w0 w) : v.ownBlock ≠ some b ∧ v.ownBlock ≠ some g := by
  obtain ⟨_, h2, _, h4, h5⟩ := h
  exact ⟨fun e => by have := (h2.lt b e).1; omega, fun e => by have := (h2.lt g e).1; omega⟩
theorem SS.keep (h : SS b g n S L K C t v st w0 w) (hb : Below w.heap.size w w') : SS b g n S L K C t v st w0 w' := by
  obtain ⟨h1, h2, h3, h4, h5⟩ := h
  exact ⟨h1.keep hb, own_keep h2 hb, h3.trans (grown_below hb _), h4, h5⟩
theorem SS.adv (h : SS b g n S L K C t v st w0 w) {t' : Nat} (hp : PT b g n S L K C t' v w') (hg : w.grownBy w' (some b)) : SS b g n S L K C t' v st w0 w' := by
  have hne := h.ne
  obtain ⟨h1, h2, h3, h4, h5⟩ := h
  exact ⟨hp, h2.kept hg (.inr hne.1), h3.trans hg, h4, h5⟩
/-- another stack slice over rows of its own -/
theorem SS.swap (h : SS b g n S L K C t v st w0 w) {v' : Value} {st' : List Int} (ho : w.ownsRow w0.heap.size 34 1 v' st'.length (ints8 st'.reverse)) : SS b g n S L K C t v' st' w0 (w.setCell ⟨b, 19, none⟩ v') := by
  obtain ⟨h1, h2, h3, h4, h5⟩ := h
  refine ⟨h1.stack v', ownsRow_setCell_other ho (a := ⟨b, 19, none⟩) (fun e => by have := (ho.lt b e).1; omega) _, h3.trans ⟨rfl, rfl, rfl, by simp [World.setCell], fun q _ hne => heap_setCell_other w _ q _ (fun e => hne (by rw [e]))⟩, h4, h5⟩
theorem SS.grown (h : SS b g n S L K C t v st w0 w) (hg : w.grownBy w' v.ownBlock) : PT b g n S L K C t v w' ∧ w0.grownBy w' (some b) := by
  have hne := h.ne
  obtain ⟨h1, h2, h3, h4, h5⟩ := h
  have hc : ∀ q o u, (q = b ∨ q = g) → w.cell? ⟨q, o, none⟩ = some u → w'.cell? ⟨q, o, none⟩ = some u := fun q o u hq hu => hg.cell hu (by rcases hq with rfl | rfl <;> intro e <;> simp_all)
  have hf : ∀ o, w'.frozen? ⟨b, o, none⟩ = w.frozen? ⟨b, o, none⟩ := fun o => hg.frozen_far ⟨b, o, none⟩ h1.lt (fun e => hne.1 e.symm)
  obtain ⟨⟨a1, a2, a3, a4, a5, a6⟩, a7, a8⟩ := h1
  refine ⟨⟨⟨hc _ _ _ (.inl rfl) a1, hc _ _ _ (.inl rfl) a2, by rw [hf]; exact a3, hc _ _ _ (.inl rfl) a4, hc _ _ _ (.inl rfl) a5, by rw [hf]; exact a6⟩, fun j hj => ?_, a8⟩, h3.andThen hg (fun j hj => .inl (h2.lt j hj).1)⟩
  obtain ⟨b1, b2, b3, b4, b5⟩ := a7 j hj
  exact ⟨hc _ _ _ (.inr rfl) b1, hc _ _ _ (.inr rfl) b2, hc _ _ _ (.inr rfl) b3, hc _ _ _ (.inr rfl) b4, hc _ _ _ (.inr rfl) b5⟩
/-- an append to the stack, stored back -/
theorem SS.push (h : SS b g n S L K C t v st w0 w) (hg : w.grownBy w' v.ownBlock) {v' : Value} {k : Int} (ho : w'.ownsRow w0.heap.size 34 1 v' (st.length + 1) (ints8 st.reverse ++ [.int .u8 k])) : SS b g n S L K C t v' (k :: st) w0 (w'.setCell ⟨b, 19, none⟩ v') := by
  obtain ⟨p1, p2⟩ := h.grown hg
  obtain ⟨h1, h2, h3, h4, h5⟩ := h
  refine ⟨p1.stack v', ownsRow_setCell_other ?_ (a := ⟨b, 19, none⟩) (fun e => by have := (ho.lt b e).1; omega) _, p2.trans ⟨rfl, rfl, rfl, by simp [World.setCell], fun q _ hne => heap_setCell_other w' _ q _ (fun e => hne (by rw [e]))⟩, h4, h5⟩
  simpa [ints8] using ho
/-- the top of the stack, and the stack without it -/
theorem SS.top {c : Int} (h : SS b g n S L K C t v (c :: st) w0 w) : ∃ gs cap, v = .slice (some ⟨gs, 0, none⟩) (st.length + 1) cap ∧ w.cell? ⟨gs, st.length, none⟩ = some (.int .u8 c) ∧ st.length + 1 ≤ cap ∧ cap ≤ maxLen ∧
    w.ownsRow w0.heap.size 34 1 (.slice (some ⟨gs, 0, none⟩) st.length cap) st.length (ints8 st.reverse) := by
  obtain ⟨h1, h2, h3, h4, h5⟩ := h
  rcases h2.2 with ⟨_, h0⟩ | ⟨gs, cap, cur, rfl, hB, hh, hn, hm, hs, ht⟩
  · simp at h0
  · refine ⟨gs, cap, by simp, ?_, by simpa using hn, hm, ?_⟩
    · rw [h2.cellAt st.length (by simp)]
      simp [ints8]
    · refine ⟨by simp [ints8], .inr ⟨gs, cap, cur, rfl, hB, hh, by simp at hn; omega, hm, hs, ?_⟩⟩
      have := congrArg (List.take st.length) ht
      rw [List.take_take] at this
      simp only [List.length_cons, Nat.mul_one] at this ⊢
      rw [show min st.length (st.length + 1) = st.length by omega] at this
      rw [this]
      simp [ints8]
end
theorem infoT : (Tryf.prog.info? 34).map (fun i => (i.zero, i.size, i.bytes)) = some (some (.int .u8 0), 1, 1) := by kernel_rfl
def AnyP (b g n : Nat) (S L K : Nat → Int) (C : ByteArray) (i : Nat) (w : World) (e : Ending) (w' : World) : Prop :=
  ∃ (v : Value) (st : List Int) (a : Option Addr) (c : Nat), e = .returned (.slice a (R n K [] i - i) c) ∧ SS b g n S L K C (R n K [] i) v st w w'
set_option maxRecDepth 100000 in
set_option maxHeartbeats 4000000 in
theorem any_any (b g n : Nat) (S L K : Nat → Int) (C : ByteArray) (i : Nat) (w : World) (h : SS b g n S L K C i (.slice none 0 0) [] w w) (hn : (n : Int) ≤ 1048576) (hgt : i < R n K [] i) (hin : i ≤ n) :
    Calls Tryf.prog 12 #[.pointer (some ⟨b, 0, none⟩)] w (AnyP b g n S L K C i w) := by
  obtain ⟨i0, hi, hz0, hz1, hz2⟩ := info_parts infoT
  have HI := Lib.hid (And.intro hi (And.intro hz0 (And.intro hz1 hz2)))
  have HG := Lib.hid hgt
  have hnd : ∃ M : Nat, M = 0 := ⟨_, rfl⟩
  clear hnd
  have HIN := Lib.hid hin
  have h19 := h.1.1.2.2.2.2.1
  have f19 := h.1.1.2.2.2.2.2
  have h42 := h.1.1.2.1
  have H0 := Lib.hid (h.swap (v' := .slice none 0 0) (st' := []) (World.ownsRow_nil _ _ _ _))
  have HG2 := Lib.hid (H0.out.1.1.2.1)
  clear hi hz0 hz1 hz2 h hgt hin
  go_enter Tryf.func12, Tryf.ntmps12
  go_wp2_with fail
  go_step3
  go_upto_region 2 with (fail)
  have h42b := HG2.out
  clear h19 f19 h42
  go_wp2_with fail
  go_step3
  go_wp2_with fail
  have HR0 := Lib.hid (rfl : R n K [] i = R n K [] i)
  clear h42b HG2
  go_loopg [4] (n - i) (fun gh _ wr => ∃ (t : Nat) (v : Value) (st : List Int), i ≤ t ∧ t ≤ n ∧ st.length ≤ t ∧ Hid (gh = n - t) ∧ Hid (SS b g n S L K C t v st w wr) ∧ Hid (R n K [] i = R n K st t))
  case atStart => exact ⟨i, _, [], Nat.le_refl _, HIN.out, Nat.zero_le _, Lib.hid rfl, H0, HR0⟩
  case round =>
    clear H0 HR0
    obtain ⟨t, v, st, hit, htn, hls, HGh, HS, HR⟩ := hrel
    have HLS := Lib.hid hls
    clear hls
    obtain ⟨sa, sc, rfl⟩ := own_form HS.out.2.1
    go_wp2_with fail
    refine (current_any b g n S L K C _ wr t HS.out.1).mono ?_
    rintro e w1 ⟨rfl, hb⟩
    have HS1 := Lib.hid (HS.out.keep hb)
    obtain ⟨k, hk⟩ : ∃ k, k = kat n K t := ⟨_, rfl⟩
    unfold tokAt
    rw [← hk]
    generalize startAt n S C t = ts
    generalize lenAt n L t = tl
    have HK := Lib.hid hk.symm
    clear hk hb HS
    have hf := field_kind ts tl k
    go_upto_region 4 with (fail)
    clear hf
    by_cases hk0 : k = 0
    · as_aux_lemma =>
      subst hk0
      have HTT := Lib.hid (show R n K [] i = t by rw [HR.out]; exact R_zero HK.out)
      have ht := HTT.out
      have c42 := HS1.out.1.1.2.1
      have c16 := HS1.out.1.1.1
      have q0 : (0 : Int) ≤ i := by omega
      have q1 : (i : Int) ≤ t := by omega
      have q2 : (t : Int) ≤ n := by omega
      have q3 : ((t : Int) - i == 0) = false := by have := HG.out; simp; omega
      have q4 : (i : Int) < n := by have := HG.out; omega
      clear ht
      go_upto_region 22 with (fail)
      go_quiet (fail)
      go_wp2_with fail
      go_ret
      refine ⟨(.slice sa st.length sc), st, some ⟨g, i * 5, none⟩, n - i, by rw [HTT.out]; rfl, ?_⟩
      rw [HTT.out]
      exact HS1.out.keep (below_drewN (Below.refl _ _) nq)
    by_cases hk8 : k = 8
    · as_aux_lemma =>
      subst hk8
      have htl : t < n := kat_lt (by rw [HK.out]; decide)
      rcases st with _ | ⟨c, r⟩
      · have c19 := HS1.out.1.1.2.2.2.2.1
        have HTT := Lib.hid (show R n K [] i = t by rw [HR.out]; exact R_top (by rw [HK.out]; decide))
        have ht := HTT.out
        have c42 := HS1.out.1.1.2.1
        have c16 := HS1.out.1.1.1
        have q0 : (0 : Int) ≤ i := by omega
        have q1 : (i : Int) ≤ t := by omega
        have q2 : (t : Int) ≤ n := by omega
        have q3 : ((t : Int) - i == 0) = false := by have := HG.out; simp; omega
        have q4 : (i : Int) < n := by have := HG.out; omega
        clear ht
        go_upto_region 22 with (fail)
        go_quiet (fail)
        go_wp2_with fail
        go_ret
        refine ⟨(.slice sa 0 sc), [], some ⟨g, i * 5, none⟩, n - i, by rw [HTT.out]; rfl, ?_⟩
        rw [HTT.out]
        exact HS1.out.keep (below_drewN (Below.refl _ _) nq)
      · obtain ⟨gs, cap, hv, ctop, hcap, hcm, hpop⟩ := HS1.out.top
        injection hv with hv1 hv2 hv3
        subst hv1
        subst hv3
        have c19 := HS1.out.1.1.2.2.2.2.1
        have f19 := HS1.out.1.1.2.2.2.2.2
        simp only [List.length_cons] at c19
        have HPOP := Lib.hid hpop
        obtain ⟨m, hm⟩ : ∃ m, m = r.length := ⟨_, rfl⟩
        rw [← hm] at c19 ctop hcap HPOP
        have HM := Lib.hid hm
        have q0 : (0 : Int) ≤ m := by omega
        have q1 : (m : Int) < m + 1 := by omega
        have q2 : (m : Int) ≤ sc := by omega
        have q3 : (m : Int) ≤ 9223372036854775806 := by unfold maxLen at hcm; omega
        clear hpop hm hv2
        by_cases hck : c = 8
        · subst hck
          go_wp2_with fail
          refine (peek_any b g n S L K C _ w1 t HS1.out.1 8 true (by rw [HK.out]; decide)).mono ?_
          rintro e w2 ⟨rfl, hb2⟩
          have c19 := later hb2 c19
          have f19 : w2.frozen? ⟨b, 19, none⟩ = false := by rw [hb2.frozen (p := ⟨b, 19, none⟩) HS1.out.1.lt]; exact f19
          have HS2 := Lib.hid (HS1.out.keep hb2)
          have HPO2 := Lib.hid (own_keep HPOP.out hb2)
          clear hb2 ctop HPOP HS1
          go_upto_region 21 with (fail)
          have hm := HM.out
          clear HM c19 f19
          subst hm
          have HS3 := Lib.hid (HS2.out.swap HPO2.out)
          go_wp2_with fail
          refine (advance_any b g n S L K C _ _ t HS3.out.1 hn htl).mono ?_
          rintro e w9 ⟨rfl, hp9, hg9⟩
          have HS9 := Lib.hid (HS3.out.adv hp9 hg9)
          have HR9 := Lib.hid (show R n K [] i = R n K r (t + 1) by rw [HR.out]; exact R_pop (by decide) HK.out)
          clear hp9 hg9
          go_wp2_with fail
          go_roundg (n - (t + 1))
          case measure => have := HGh.out; omega
          case rel => exact ⟨t + 1, _, r, by omega, by omega, by have := HLS.out; first | omega | (simp only [List.length_cons] at *; omega), Lib.hid rfl, HS9, HR9⟩
        · go_wp2_with fail
          refine (peek_any b g n S L K C _ w1 t HS1.out.1 c false (by rw [HK.out]; simp; omega)).mono ?_
          rintro e w2 ⟨rfl, hb2⟩
          have HS2 := Lib.hid (HS1.out.keep hb2)
          clear hb2 ctop HPOP HS1 c19 f19
          have HTT := Lib.hid (show R n K [] i = t by rw [HR.out]; exact R_bad (by rw [HK.out]; decide) (by rw [HK.out]; omega))
          have ht := HTT.out
          have c42 := HS2.out.1.1.2.1
          have c16 := HS2.out.1.1.1
          have q0 : (0 : Int) ≤ i := by omega
          have q1 : (i : Int) ≤ t := by omega
          have q2 : (t : Int) ≤ n := by omega
          have q3 : ((t : Int) - i == 0) = false := by have := HG.out; simp; omega
          have q4 : (i : Int) < n := by have := HG.out; omega
          clear ht
          go_upto_region 22 with (fail)
          go_quiet (fail)
          go_wp2_with fail
          go_ret
          refine ⟨(.slice (some ⟨gs, 0, none⟩) (c :: r).length sc), (c :: r), some ⟨g, i * 5, none⟩, n - i, by rw [HTT.out]; rfl, ?_⟩
          rw [HTT.out]
          exact HS2.out.keep (below_drewN (Below.refl _ _) nq)
    by_cases hk7 : k = 7
    · as_aux_lemma =>
      subst hk7
      have htl : t < n := kat_lt (by rw [HK.out]; decide)
      rcases st with _ | ⟨c, r⟩
      · have c19 := HS1.out.1.1.2.2.2.2.1
        have HTT := Lib.hid (show R n K [] i = t by rw [HR.out]; exact R_top (by rw [HK.out]; decide))
        have ht := HTT.out
        have c42 := HS1.out.1.1.2.1
        have c16 := HS1.out.1.1.1
        have q0 : (0 : Int) ≤ i := by omega
        have q1 : (i : Int) ≤ t := by omega
        have q2 : (t : Int) ≤ n := by omega
        have q3 : ((t : Int) - i == 0) = false := by have := HG.out; simp; omega
        have q4 : (i : Int) < n := by have := HG.out; omega
        clear ht
        go_upto_region 22 with (fail)
        go_quiet (fail)
        go_wp2_with fail
        go_ret
        refine ⟨(.slice sa 0 sc), [], some ⟨g, i * 5, none⟩, n - i, by rw [HTT.out]; rfl, ?_⟩
        rw [HTT.out]
        exact HS1.out.keep (below_drewN (Below.refl _ _) nq)
      · obtain ⟨gs, cap, hv, ctop, hcap, hcm, hpop⟩ := HS1.out.top
        injection hv with hv1 hv2 hv3
        subst hv1
        subst hv3
        have c19 := HS1.out.1.1.2.2.2.2.1
        have f19 := HS1.out.1.1.2.2.2.2.2
        simp only [List.length_cons] at c19
        have HPOP := Lib.hid hpop
        obtain ⟨m, hm⟩ : ∃ m, m = r.length := ⟨_, rfl⟩
        rw [← hm] at c19 ctop hcap HPOP
        have HM := Lib.hid hm
        have q0 : (0 : Int) ≤ m := by omega
        have q1 : (m : Int) < m + 1 := by omega
        have q2 : (m : Int) ≤ sc := by omega
        have q3 : (m : Int) ≤ 9223372036854775806 := by unfold maxLen at hcm; omega
        clear hpop hm hv2
        by_cases hck : c = 7
        · subst hck
          go_wp2_with fail
          refine (peek_any b g n S L K C _ w1 t HS1.out.1 7 true (by rw [HK.out]; decide)).mono ?_
          rintro e w2 ⟨rfl, hb2⟩
          have c19 := later hb2 c19
          have f19 : w2.frozen? ⟨b, 19, none⟩ = false := by rw [hb2.frozen (p := ⟨b, 19, none⟩) HS1.out.1.lt]; exact f19
          have HS2 := Lib.hid (HS1.out.keep hb2)
          have HPO2 := Lib.hid (own_keep HPOP.out hb2)
          clear hb2 ctop HPOP HS1
          go_upto_region 21 with (fail)
          have hm := HM.out
          clear HM c19 f19
          subst hm
          have HS3 := Lib.hid (HS2.out.swap HPO2.out)
          go_wp2_with fail
          refine (advance_any b g n S L K C _ _ t HS3.out.1 hn htl).mono ?_
          rintro e w9 ⟨rfl, hp9, hg9⟩
          have HS9 := Lib.hid (HS3.out.adv hp9 hg9)
          have HR9 := Lib.hid (show R n K [] i = R n K r (t + 1) by rw [HR.out]; exact R_pop (by decide) HK.out)
          clear hp9 hg9
          go_wp2_with fail
          go_roundg (n - (t + 1))
          case measure => have := HGh.out; omega
          case rel => exact ⟨t + 1, _, r, by omega, by omega, by have := HLS.out; first | omega | (simp only [List.length_cons] at *; omega), Lib.hid rfl, HS9, HR9⟩
        · go_wp2_with fail
          refine (peek_any b g n S L K C _ w1 t HS1.out.1 c false (by rw [HK.out]; simp; omega)).mono ?_
          rintro e w2 ⟨rfl, hb2⟩
          have HS2 := Lib.hid (HS1.out.keep hb2)
          clear hb2 ctop HPOP HS1 c19 f19
          have HTT := Lib.hid (show R n K [] i = t by rw [HR.out]; exact R_bad (by rw [HK.out]; decide) (by rw [HK.out]; omega))
          have ht := HTT.out
          have c42 := HS2.out.1.1.2.1
          have c16 := HS2.out.1.1.1
          have q0 : (0 : Int) ≤ i := by omega
          have q1 : (i : Int) ≤ t := by omega
          have q2 : (t : Int) ≤ n := by omega
          have q3 : ((t : Int) - i == 0) = false := by have := HG.out; simp; omega
          have q4 : (i : Int) < n := by have := HG.out; omega
          clear ht
          go_upto_region 22 with (fail)
          go_quiet (fail)
          go_wp2_with fail
          go_ret
          refine ⟨(.slice (some ⟨gs, 0, none⟩) (c :: r).length sc), (c :: r), some ⟨g, i * 5, none⟩, n - i, by rw [HTT.out]; rfl, ?_⟩
          rw [HTT.out]
          exact HS2.out.keep (below_drewN (Below.refl _ _) nq)
    by_cases hk6 : k = 6
    · as_aux_lemma =>
      subst hk6
      have htl : t < n := kat_lt (by rw [HK.out]; decide)
      rcases st with _ | ⟨c, r⟩
      · have c19 := HS1.out.1.1.2.2.2.2.1
        have HTT := Lib.hid (show R n K [] i = t by rw [HR.out]; exact R_top (by rw [HK.out]; decide))
        have ht := HTT.out
        have c42 := HS1.out.1.1.2.1
        have c16 := HS1.out.1.1.1
        have q0 : (0 : Int) ≤ i := by omega
        have q1 : (i : Int) ≤ t := by omega
        have q2 : (t : Int) ≤ n := by omega
        have q3 : ((t : Int) - i == 0) = false := by have := HG.out; simp; omega
        have q4 : (i : Int) < n := by have := HG.out; omega
        clear ht
        go_upto_region 22 with (fail)
        go_quiet (fail)
        go_wp2_with fail
        go_ret
        refine ⟨(.slice sa 0 sc), [], some ⟨g, i * 5, none⟩, n - i, by rw [HTT.out]; rfl, ?_⟩
        rw [HTT.out]
        exact HS1.out.keep (below_drewN (Below.refl _ _) nq)
      · obtain ⟨gs, cap, hv, ctop, hcap, hcm, hpop⟩ := HS1.out.top
        injection hv with hv1 hv2 hv3
        subst hv1
        subst hv3
        have c19 := HS1.out.1.1.2.2.2.2.1
        have f19 := HS1.out.1.1.2.2.2.2.2
        simp only [List.length_cons] at c19
        have HPOP := Lib.hid hpop
        obtain ⟨m, hm⟩ : ∃ m, m = r.length := ⟨_, rfl⟩
        rw [← hm] at c19 ctop hcap HPOP
        have HM := Lib.hid hm
        have q0 : (0 : Int) ≤ m := by omega
        have q1 : (m : Int) < m + 1 := by omega
        have q2 : (m : Int) ≤ sc := by omega
        have q3 : (m : Int) ≤ 9223372036854775806 := by unfold maxLen at hcm; omega
        clear hpop hm hv2
        by_cases hck : c = 6
        · subst hck
          go_wp2_with fail
          refine (peek_any b g n S L K C _ w1 t HS1.out.1 6 true (by rw [HK.out]; decide)).mono ?_
          rintro e w2 ⟨rfl, hb2⟩
          have c19 := later hb2 c19
          have f19 : w2.frozen? ⟨b, 19, none⟩ = false := by rw [hb2.frozen (p := ⟨b, 19, none⟩) HS1.out.1.lt]; exact f19
          have HS2 := Lib.hid (HS1.out.keep hb2)
          have HPO2 := Lib.hid (own_keep HPOP.out hb2)
          clear hb2 ctop HPOP HS1
          go_upto_region 21 with (fail)
          have hm := HM.out
          clear HM c19 f19
          subst hm
          have HS3 := Lib.hid (HS2.out.swap HPO2.out)
          go_wp2_with fail
          refine (advance_any b g n S L K C _ _ t HS3.out.1 hn htl).mono ?_
          rintro e w9 ⟨rfl, hp9, hg9⟩
          have HS9 := Lib.hid (HS3.out.adv hp9 hg9)
          have HR9 := Lib.hid (show R n K [] i = R n K r (t + 1) by rw [HR.out]; exact R_pop (by decide) HK.out)
          clear hp9 hg9
          go_wp2_with fail
          go_roundg (n - (t + 1))
          case measure => have := HGh.out; omega
          case rel => exact ⟨t + 1, _, r, by omega, by omega, by have := HLS.out; first | omega | (simp only [List.length_cons] at *; omega), Lib.hid rfl, HS9, HR9⟩
        · go_wp2_with fail
          refine (peek_any b g n S L K C _ w1 t HS1.out.1 c false (by rw [HK.out]; simp; omega)).mono ?_
          rintro e w2 ⟨rfl, hb2⟩
          have HS2 := Lib.hid (HS1.out.keep hb2)
          clear hb2 ctop HPOP HS1 c19 f19
          have HTT := Lib.hid (show R n K [] i = t by rw [HR.out]; exact R_bad (by rw [HK.out]; decide) (by rw [HK.out]; omega))
          have ht := HTT.out
          have c42 := HS2.out.1.1.2.1
          have c16 := HS2.out.1.1.1
          have q0 : (0 : Int) ≤ i := by omega
          have q1 : (i : Int) ≤ t := by omega
          have q2 : (t : Int) ≤ n := by omega
          have q3 : ((t : Int) - i == 0) = false := by have := HG.out; simp; omega
          have q4 : (i : Int) < n := by have := HG.out; omega
          clear ht
          go_upto_region 22 with (fail)
          go_quiet (fail)
          go_wp2_with fail
          go_ret
          refine ⟨(.slice (some ⟨gs, 0, none⟩) (c :: r).length sc), (c :: r), some ⟨g, i * 5, none⟩, n - i, by rw [HTT.out]; rfl, ?_⟩
          rw [HTT.out]
          exact HS2.out.keep (below_drewN (Below.refl _ _) nq)
    by_cases hk35 : k = 35
    · as_aux_lemma =>
      subst hk35
      have htl : t < n := kat_lt (by rw [HK.out]; decide)
      rcases st with _ | ⟨c, r⟩
      · have c19 := HS1.out.1.1.2.2.2.2.1
        have HTT := Lib.hid (show R n K [] i = t by rw [HR.out]; exact R_semi_top (.inl HK.out))
        have ht := HTT.out
        have c42 := HS1.out.1.1.2.1
        have c16 := HS1.out.1.1.1
        have q0 : (0 : Int) ≤ i := by omega
        have q1 : (i : Int) ≤ t := by omega
        have q2 : (t : Int) ≤ n := by omega
        have q3 : ((t : Int) - i == 0) = false := by have := HG.out; simp; omega
        have q4 : (i : Int) < n := by have := HG.out; omega
        clear ht
        go_upto_region 22 with (fail)
        go_quiet (fail)
        go_wp2_with fail
        go_ret
        refine ⟨(.slice sa 0 sc), [], some ⟨g, i * 5, none⟩, n - i, by rw [HTT.out]; rfl, ?_⟩
        rw [HTT.out]
        exact HS1.out.keep (below_drewN (Below.refl _ _) nq)
      · have c19 := HS1.out.1.1.2.2.2.2.1
        simp only [List.length_cons] at c19
        have q0 : (((r.length : Nat) : Int) + 1 == 0) = false := by simp; omega
        go_wp2_with fail
        refine (advance_any b g n S L K C _ _ t HS1.out.1 hn htl).mono ?_
        rintro e w9 ⟨rfl, hp9, hg9⟩
        have HS9 := Lib.hid (HS1.out.adv hp9 hg9)
        have HR9 := Lib.hid (show R n K [] i = R n K (c :: r) (t + 1) by rw [HR.out]; exact R_semi (.inl HK.out))
        clear hp9 hg9
        go_wp2_with fail
        go_roundg (n - (t + 1))
        case measure => have := HGh.out; omega
        case rel => exact ⟨t + 1, _, (c :: r), by omega, by omega, by have := HLS.out; first | omega | (simp only [List.length_cons] at *; omega), Lib.hid rfl, HS9, HR9⟩
    by_cases hk19 : k = 19
    · as_aux_lemma =>
      subst hk19
      have htl : t < n := kat_lt (by rw [HK.out]; decide)
      rcases st with _ | ⟨c, r⟩
      · have c19 := HS1.out.1.1.2.2.2.2.1
        have HTT := Lib.hid (show R n K [] i = t by rw [HR.out]; exact R_semi_top (.inr HK.out))
        have ht := HTT.out
        have c42 := HS1.out.1.1.2.1
        have c16 := HS1.out.1.1.1
        have q0 : (0 : Int) ≤ i := by omega
        have q1 : (i : Int) ≤ t := by omega
        have q2 : (t : Int) ≤ n := by omega
        have q3 : ((t : Int) - i == 0) = false := by have := HG.out; simp; omega
        have q4 : (i : Int) < n := by have := HG.out; omega
        clear ht
        go_upto_region 22 with (fail)
        go_quiet (fail)
        go_wp2_with fail
        go_ret
        refine ⟨(.slice sa 0 sc), [], some ⟨g, i * 5, none⟩, n - i, by rw [HTT.out]; rfl, ?_⟩
        rw [HTT.out]
        exact HS1.out.keep (below_drewN (Below.refl _ _) nq)
      · have c19 := HS1.out.1.1.2.2.2.2.1
        simp only [List.length_cons] at c19
        have q0 : (((r.length : Nat) : Int) + 1 == 0) = false := by simp; omega
        go_wp2_with fail
        refine (advance_any b g n S L K C _ _ t HS1.out.1 hn htl).mono ?_
        rintro e w9 ⟨rfl, hp9, hg9⟩
        have HS9 := Lib.hid (HS1.out.adv hp9 hg9)
        have HR9 := Lib.hid (show R n K [] i = R n K (c :: r) (t + 1) by rw [HR.out]; exact R_semi (.inr HK.out))
        clear hp9 hg9
        go_wp2_with fail
        go_roundg (n - (t + 1))
        case measure => have := HGh.out; omega
        case rel => exact ⟨t + 1, _, (c :: r), by omega, by omega, by have := HLS.out; first | omega | (simp only [List.length_cons] at *; omega), Lib.hid rfl, HS9, HR9⟩
    by_cases hk33 : k = 33
    · as_aux_lemma =>
      subst hk33
      have htl : t < n := kat_lt (by rw [HK.out]; decide)
      have c19 := HS1.out.1.1.2.2.2.2.1
      have f19 := HS1.out.1.1.2.2.2.2.2
      have HSa := Lib.hid (HS1.out.keep ((Below.refl _ _).alloc (Nat.le_refl _) (.cells #[.int .u8 8] 34)))
      have HLN := HLS.out
      go_upto_region 21 with (at_builtin; refine wpList_append_lies _ rfl (.tmp 70) (.tmp 71) 64 rfl w.heap.size 34 i0 _ 1 1 Tryf.underlying64 HI.out.1 HI.out.2.1 HI.out.2.2.1 HI.out.2.2.2 rfl (by omega) (.slice sa st.length sc) st.length (ints8 st.reverse) rfl HSa.out.2.1 ⟨w1.heap.size, 0, none⟩ 1 1 [.int .u8 8] rfl rfl (World.news_of_block (cs := #[.int .u8 8]) (heap_alloc_new w1 _)) (by simp [Value.oneCell']) (by omega) (by unfold maxLen; omega) (by omega) HSa.out.2.2.1.size _ rfl ?_; intro g9 cap9 w9 ho9 hg9 hat9 hlt9; have c19 := (HSa.out.grown hg9).1.1.2.2.2.2.1; have f19 := (HSa.out.grown hg9).1.1.2.2.2.2.2; have HPU := Lib.hid (HSa.out.push hg9 ho9); clear hg9 ho9 hat9 hlt9 HSa)
      clear c19 f19
      go_wp2_with fail
      refine (advance_any b g n S L K C _ _ t HPU.out.1 hn htl).mono ?_
      rintro e w8 ⟨rfl, hp9, hg8⟩
      have HS8 := Lib.hid (HPU.out.adv hp9 hg8)
      have HR8 := Lib.hid (show R n K [] i = R n K (8 :: st) (t + 1) by rw [HR.out]; exact (R_open (by rw [HK.out]; decide)).trans (by rw [HK.out]; rfl))
      clear hp9 hg8
      go_wp2_with fail
      go_roundg (n - (t + 1))
      case measure => have := HGh.out; omega
      case rel => exact ⟨t + 1, _, (8 :: st), by omega, by omega, by have := HLS.out; first | omega | (simp only [List.length_cons] at *; omega), Lib.hid rfl, HS8, HR8⟩
    by_cases hk27 : k = 27
    · as_aux_lemma =>
      subst hk27
      have htl : t < n := kat_lt (by rw [HK.out]; decide)
      have c19 := HS1.out.1.1.2.2.2.2.1
      have f19 := HS1.out.1.1.2.2.2.2.2
      have HSa := Lib.hid (HS1.out.keep ((Below.refl _ _).alloc (Nat.le_refl _) (.cells #[.int .u8 8] 34)))
      have HLN := HLS.out
      go_upto_region 21 with (at_builtin; refine wpList_append_lies _ rfl (.tmp 70) (.tmp 71) 64 rfl w.heap.size 34 i0 _ 1 1 Tryf.underlying64 HI.out.1 HI.out.2.1 HI.out.2.2.1 HI.out.2.2.2 rfl (by omega) (.slice sa st.length sc) st.length (ints8 st.reverse) rfl HSa.out.2.1 ⟨w1.heap.size, 0, none⟩ 1 1 [.int .u8 8] rfl rfl (World.news_of_block (cs := #[.int .u8 8]) (heap_alloc_new w1 _)) (by simp [Value.oneCell']) (by omega) (by unfold maxLen; omega) (by omega) HSa.out.2.2.1.size _ rfl ?_; intro g9 cap9 w9 ho9 hg9 hat9 hlt9; have c19 := (HSa.out.grown hg9).1.1.2.2.2.2.1; have f19 := (HSa.out.grown hg9).1.1.2.2.2.2.2; have HPU := Lib.hid (HSa.out.push hg9 ho9); clear hg9 ho9 hat9 hlt9 HSa)
      clear c19 f19
      go_wp2_with fail
      refine (advance_any b g n S L K C _ _ t HPU.out.1 hn htl).mono ?_
      rintro e w8 ⟨rfl, hp9, hg8⟩
      have HS8 := Lib.hid (HPU.out.adv hp9 hg8)
      have HR8 := Lib.hid (show R n K [] i = R n K (8 :: st) (t + 1) by rw [HR.out]; exact (R_open (by rw [HK.out]; decide)).trans (by rw [HK.out]; rfl))
      clear hp9 hg8
      go_wp2_with fail
      go_roundg (n - (t + 1))
      case measure => have := HGh.out; omega
      case rel => exact ⟨t + 1, _, (8 :: st), by omega, by omega, by have := HLS.out; first | omega | (simp only [List.length_cons] at *; omega), Lib.hid rfl, HS8, HR8⟩
    by_cases hk32 : k = 32
    · as_aux_lemma =>
      subst hk32
      have htl : t < n := kat_lt (by rw [HK.out]; decide)
      have c19 := HS1.out.1.1.2.2.2.2.1
      have f19 := HS1.out.1.1.2.2.2.2.2
      have HSa := Lib.hid (HS1.out.keep ((Below.refl _ _).alloc (Nat.le_refl _) (.cells #[.int .u8 7] 34)))
      have HLN := HLS.out
      go_upto_region 21 with (at_builtin; refine wpList_append_lies _ rfl (.tmp 81) (.tmp 82) 64 rfl w.heap.size 34 i0 _ 1 1 Tryf.underlying64 HI.out.1 HI.out.2.1 HI.out.2.2.1 HI.out.2.2.2 rfl (by omega) (.slice sa st.length sc) st.length (ints8 st.reverse) rfl HSa.out.2.1 ⟨w1.heap.size, 0, none⟩ 1 1 [.int .u8 7] rfl rfl (World.news_of_block (cs := #[.int .u8 7]) (heap_alloc_new w1 _)) (by simp [Value.oneCell']) (by omega) (by unfold maxLen; omega) (by omega) HSa.out.2.2.1.size _ rfl ?_; intro g9 cap9 w9 ho9 hg9 hat9 hlt9; have c19 := (HSa.out.grown hg9).1.1.2.2.2.2.1; have f19 := (HSa.out.grown hg9).1.1.2.2.2.2.2; have HPU := Lib.hid (HSa.out.push hg9 ho9); clear hg9 ho9 hat9 hlt9 HSa)
      clear c19 f19
      go_wp2_with fail
      refine (advance_any b g n S L K C _ _ t HPU.out.1 hn htl).mono ?_
      rintro e w8 ⟨rfl, hp9, hg8⟩
      have HS8 := Lib.hid (HPU.out.adv hp9 hg8)
      have HR8 := Lib.hid (show R n K [] i = R n K (7 :: st) (t + 1) by rw [HR.out]; exact (R_open (by rw [HK.out]; decide)).trans (by rw [HK.out]; rfl))
      clear hp9 hg8
      go_wp2_with fail
      go_roundg (n - (t + 1))
      case measure => have := HGh.out; omega
      case rel => exact ⟨t + 1, _, (7 :: st), by omega, by omega, by have := HLS.out; first | omega | (simp only [List.length_cons] at *; omega), Lib.hid rfl, HS8, HR8⟩
    by_cases hk31 : k = 31
    · as_aux_lemma =>
      subst hk31
      have htl : t < n := kat_lt (by rw [HK.out]; decide)
      have c19 := HS1.out.1.1.2.2.2.2.1
      have f19 := HS1.out.1.1.2.2.2.2.2
      have HSa := Lib.hid (HS1.out.keep ((Below.refl _ _).alloc (Nat.le_refl _) (.cells #[.int .u8 6] 34)))
      have HLN := HLS.out
      go_upto_region 21 with (at_builtin; refine wpList_append_lies _ rfl (.tmp 92) (.tmp 93) 64 rfl w.heap.size 34 i0 _ 1 1 Tryf.underlying64 HI.out.1 HI.out.2.1 HI.out.2.2.1 HI.out.2.2.2 rfl (by omega) (.slice sa st.length sc) st.length (ints8 st.reverse) rfl HSa.out.2.1 ⟨w1.heap.size, 0, none⟩ 1 1 [.int .u8 6] rfl rfl (World.news_of_block (cs := #[.int .u8 6]) (heap_alloc_new w1 _)) (by simp [Value.oneCell']) (by omega) (by unfold maxLen; omega) (by omega) HSa.out.2.2.1.size _ rfl ?_; intro g9 cap9 w9 ho9 hg9 hat9 hlt9; have c19 := (HSa.out.grown hg9).1.1.2.2.2.2.1; have f19 := (HSa.out.grown hg9).1.1.2.2.2.2.2; have HPU := Lib.hid (HSa.out.push hg9 ho9); clear hg9 ho9 hat9 hlt9 HSa)
      clear c19 f19
      go_wp2_with fail
      refine (advance_any b g n S L K C _ _ t HPU.out.1 hn htl).mono ?_
      rintro e w8 ⟨rfl, hp9, hg8⟩
      have HS8 := Lib.hid (HPU.out.adv hp9 hg8)
      have HR8 := Lib.hid (show R n K [] i = R n K (6 :: st) (t + 1) by rw [HR.out]; exact (R_open (by rw [HK.out]; decide)).trans (by rw [HK.out]; rfl))
      clear hp9 hg8
      go_wp2_with fail
      go_roundg (n - (t + 1))
      case measure => have := HGh.out; omega
      case rel => exact ⟨t + 1, _, (6 :: st), by omega, by omega, by have := HLS.out; first | omega | (simp only [List.length_cons] at *; omega), Lib.hid rfl, HS8, HR8⟩
    as_aux_lemma =>
      have b0 : (k == 0) = false := by simp; omega
      have b8 : (k == 8) = false := by simp; omega
      have b7 : (k == 7) = false := by simp; omega
      have b6 : (k == 6) = false := by simp; omega
      have b35 : (k == 35) = false := by simp; omega
      have b19 : (k == 19) = false := by simp; omega
      have b33 : (k == 33) = false := by simp; omega
      have b27 : (k == 27) = false := by simp; omega
      have b32 : (k == 32) = false := by simp; omega
      have b31 : (k == 31) = false := by simp; omega
      have htl : t < n := kat_lt (by rw [HK.out]; exact hk0)
      have HX := Lib.hid (R_other (n := n) (K := K) (st := st) (i := t) (by rw [HK.out]; exact hk0) (by rw [HK.out]; unfold clo; omega) (by rw [HK.out]; omega) (by rw [HK.out]; unfold opn; rw [if_neg (by omega), if_neg (by omega), if_neg (by omega)]))
      clear hk0 hk8 hk7 hk6 hk35 hk19 hk33 hk27 hk32 hk31
      go_wp2_with fail
      refine (advance_any b g n S L K C _ _ t HS1.out.1 hn htl).mono ?_
      rintro e w9 ⟨rfl, hp9, hg9⟩
      have HS9 := Lib.hid (HS1.out.adv hp9 hg9)
      have HR9 := Lib.hid (show R n K [] i = R n K st (t + 1) by rw [HR.out]; exact HX.out)
      clear hp9 hg9
      go_wp2_with fail
      go_roundg (n - (t + 1))
      case measure => have := HGh.out; omega
      case rel => exact ⟨t + 1, _, st, by omega, by omega, by have := HLS.out; first | omega | (simp only [List.length_cons] at *; omega), Lib.hid rfl, HS9, HR9⟩
end Go.Proofs.YtelpdhhcpdagbabFmt.Av
