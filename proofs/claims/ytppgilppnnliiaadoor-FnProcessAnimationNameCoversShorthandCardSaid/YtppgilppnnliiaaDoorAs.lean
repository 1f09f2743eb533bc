/-
  processAnimationShorthand over a row of tokens: some of the identifiers and strings are handled.
-/
import Derived.Test.YtppgilppnnliiaaDoorAn
namespace Go.Proofs.YtppgilppnnliiaaDoor.Sy
open Go.ChangeShapes Go.WideShapes Go.ChangeAt Go.RowKit Rg
set_option linter.unusedVariables false
def flc (a0 a1 a2 a3 a4 a5 : Bool) : Array Value := #[.bool a0, .bool a1, .bool a2, .bool a3, .bool a4, .bool a5]
/-- the flags' block -/
def FL (w : World) (f : Nat) : Prop := ∃ a0 a1 a2 a3 a4 a5 : Bool, Bk w f 87 (flc a0 a1 a2 a3 a4 a5)
theorem FL.set {w : World} {f : Nat} (h : FL w f) (j : Nat) (b : Bool) : FL (w.setCell ⟨f, j, none⟩ (.bool b)) f := by
  obtain ⟨a0, a1, a2, a3, a4, a5, h⟩ := h
  have h2 := h.set_ j (.bool b)
  match j, h2 with
  | 0, h2 => exact ⟨b, a1, a2, a3, a4, a5, h2⟩
  | 1, h2 => exact ⟨a0, b, a2, a3, a4, a5, h2⟩
  | 2, h2 => exact ⟨a0, a1, b, a3, a4, a5, h2⟩
  | 3, h2 => exact ⟨a0, a1, a2, b, a4, a5, h2⟩
  | 4, h2 => exact ⟨a0, a1, a2, a3, b, a5, h2⟩
  | 5, h2 => exact ⟨a0, a1, a2, a3, a4, b, h2⟩
  | j + 6, h2 =>
    refine ⟨a0, a1, a2, a3, a4, a5, ?_⟩
    have e : (flc a0 a1 a2 a3 a4 a5).setIfInBounds (j + 6) (.bool b) = flc a0 a1 a2 a3 a4 a5 := by
      unfold Array.setIfInBounds
      rw [dif_neg]
      show ¬ j + 6 < 6
      omega
    rw [e] at h2
    exact h2
/-- the state between two statements -/
structure SW (B : Nat) (X : Nat → Prop) (p : Nat) (ml : Bool) (g f : Nat) (z : List TK × SY) (w0 : World) (X' : Nat → Prop) (w : World) : Prop where
  st : ST B X' p ml g z w
  go : GO X g w0 X' w
  fl : FL w f
  fx : ¬ X' f
  fb : w0.heap.size ≤ f
  fB : B ≤ f
  fg : g ≠ f
section
variable {B p g f : Nat} {X X' X'' : Nat → Prop} {ml : Bool} {z z' : List TK × SY} {w0 w w' : World}
theorem FL.keep (h : FL w f) (hb : Below w.heap.size w w') : FL w' f := by
  obtain ⟨a0, a1, a2, a3, a4, a5, h⟩ := h
  exact ⟨a0, a1, a2, a3, a4, a5, h.keep hb⟩
theorem FL.lt (h : FL w f) : f < w.heap.size := by
  obtain ⟨a0, a1, a2, a3, a4, a5, h⟩ := h
  exact h.lt
theorem SW.keep (h : SW B X p ml g f z w0 X' w) (hb : Below w.heap.size w w') : SW B X p ml g f z w0 X' w' :=
  ⟨h.st.keep hb, h.go.trans (GO.keep hb), h.fl.keep hb, h.fx, h.fb, h.fB, h.fg⟩
theorem SW.set (h : SW B X p ml g f z w0 X' w) (j : Nat) (b : Bool) : SW B X p ml g f z w0 X' (w.setCell ⟨f, j, none⟩ (.bool b)) :=
  ⟨h.st.off (Y := fun i => i = f) (Off.of_setCell w f j _ rfl) (fun i hi => by subst hi; exact ⟨h.fB, h.fx⟩) (Bk.far h.st.tb h.fg _),
    ⟨h.go.1.trans (X' := fun i => i = f) (Off.of_setCell w f j _ rfl) (fun i hi => .inr (by rw [hi]; exact h.fb)), h.go.2⟩, h.fl.set j b, h.fx, h.fb, h.fB, h.fg⟩
theorem SW.step (h : SW B X p ml g f z w0 X' w) (hs : ST B X'' p ml g z' w') (hg : GO X' g w X'' w') : SW B X p ml g f z' w0 X'' w' := by
  refine ⟨hs, h.go.trans hg, ?_, fun hx => (hg.2 f hx).elim h.fx (fun e => by have := h.fl.lt; omega), h.fb, h.fB, h.fg⟩
  obtain ⟨a0, a1, a2, a3, a4, a5, hf⟩ := h.fl
  exact ⟨a0, a1, a2, a3, a4, a5, hg.1.keep_bk hf (fun hx => hx.elim h.fx (fun e => h.fg e.symm))⟩
end
/-- some tokens j, by d, are handled -/
def cS (d : Nat → Bool) (ml : Bool) (j : Nat) (x : TK) : Bool := d j && cA ml j x
theorem stN_congr {c c' : Nat → TK → Bool} {z : List TK × SY} : ∀ (k : Nat), (∀ j, j < k → ∀ x, c j x = c' j x) → stN c z k = stN c' z k
  | 0, _ => rfl
  | k + 1, h => by
    rw [stN, stN, stN_congr k (fun j hj => h j (by omega))]
    exact stp_congr (h k (by omega) _)
def upk (d : Nat → Bool) (k : Nat) (b : Bool) (j : Nat) : Bool := if j = k then b else d j
theorem stN_upk {d : Nat → Bool} {ml : Bool} {z : List TK × SY} {k : Nat} {b : Bool} : stN (cS (upk d k b) ml) z k = stN (cS d ml) z k :=
  stN_congr k fun j hj x => by unfold cS upk; rw [if_neg (by omega)]
theorem stN_no {d : Nat → Bool} {ml : Bool} {z : List TK × SY} {k : Nat} : stN (cS (upk d k false) ml) z (k + 1) = stN (cS d ml) z k := by
  rw [stN, stN_upk, stp_not]
  unfold cS upk
  rw [if_pos rfl]
  rfl
theorem stN_yes {d : Nat → Bool} {ml : Bool} {z : List TK × SY} {k : Nat} : stN (cS (upk d k true) ml) z (k + 1) = stp (cA ml) k (stN (cS d ml) z k) := by
  rw [stN, stN_upk]
  refine stp_congr ?_
  unfold cS upk
  rw [if_pos rfl]
  rfl
/-- only identifiers and strings are handled -/
def DOk (T : List TK) (d : Nat → Bool) (k : Nat) : Prop := ∀ j, j < k → d j = true → (T.getD j tk0).2.1 = 29 ∨ (T.getD j tk0).2.1 = 36
/-- the state at the head of round k -/
def LR (B : Nat) (X : Nat → Prop) (p : Nat) (ml : Bool) (g f : Nat) (z : List TK × SY) (w0 : World) (k : Nat) (w : World) : Prop :=
  ∃ (d : Nat → Bool) (X' : Nat → Prop), DOk z.1 d k ∧ SW B X p ml g f (stN (cS d ml) z k) w0 X' w
section
variable {B p g f k : Nat} {X X' : Nat → Prop} {ml : Bool} {z : List TK × SY} {w0 w : World} {d : Nat → Bool}
theorem LR.no (hd : DOk z.1 d k) (h : SW B X p ml g f (stN (cS d ml) z k) w0 X' w) : LR B X p ml g f z w0 (k + 1) w := by
  refine ⟨upk d k false, X', fun j hj ht => ?_, by rw [stN_no]; exact h⟩
  unfold upk at ht
  split at ht
  · cases ht
  · exact hd j (by omega) ht
theorem LR.yes (hd : DOk z.1 d k) (hk : (z.1.getD k tk0).2.1 = 29 ∨ (z.1.getD k tk0).2.1 = 36) (h : SW B X p ml g f (stp (cA ml) k (stN (cS d ml) z k)) w0 X' w) : LR B X p ml g f z w0 (k + 1) w := by
  refine ⟨upk d k true, X', fun j hj ht => ?_, by rw [stN_yes]; exact h⟩
  by_cases e : j = k
  · subst e; exact hk
  · unfold upk at ht
    rw [if_neg e] at ht
    exact hd j (by omega) ht
/-- within a round: the token's copy, too -/
def SR (B : Nat) (X : Nat → Prop) (p : Nat) (ml : Bool) (g f q : Nat) (s : ByteArray) (z : List TK × SY) (w0 : World) (X' : Nat → Prop) (w : World) : Prop :=
  SW B X p ml g f z w0 X' w ∧ w.cell? ⟨q, 1, none⟩ = some (.string s) ∧ q < w.heap.size
variable {q : Nat} {s : ByteArray} {w' : World}
theorem SR.keep (h : SR B X p ml g f q s z w0 X' w) (hb : Below w.heap.size w w') : SR B X p ml g f q s z w0 X' w' :=
  ⟨h.1.keep hb, later hb h.2.1, Nat.lt_of_lt_of_le h.2.2 hb.size⟩
end
theorem undFl : (Tryd.prog.info? 87).map (fun i => (i.zero, i.size)) = some (some (.agg #[.bool false, .bool false, .bool false, .bool false, .bool false, .bool false]), 6) := by kernel_rfl
set_option maxRecDepth 100000 in
set_option maxHeartbeats 8000000 in
theorem as_any {B : Nat} {X : Nat → Prop} (p g n cap : Nat) (ml : Bool) (z : List TK × SY) (w : World) (h : ST B X p ml g z w) (hn : z.1.length = n) (hn2 : n ≤ 1000000) (hb : SBd 1000000 z.2) (hs : Sized z.1) :
    Calls Tryd.prog 15 #[.pointer (some ⟨p, 0, none⟩), .slice (some ⟨g, 0, none⟩) n cap] w fun e w' => e = .returned (.tuple #[]) ∧ ∃ (X' : Nat → Prop) (d : Nat → Bool), DOk z.1 d n ∧ ST B X' p ml g (stN (cS d ml) z n) w' ∧ GO X g w X' w' := by
  have H := Lib.hid h
  have HB := Lib.hid hb
  have HS := Lib.hid hs
  have HN := Lib.hid hn
  obtain ⟨du, hu, hu2⟩ := tyTok
  have HU := Lib.hid hu
  clear h hb hs hn hu
  go_enter Tryd.func15, Tryd.ntmps15
  go_upto_region 1 with fail
  obtain ⟨f, hf⟩ : ∃ f, w.heap.size = f := ⟨_, rfl⟩
  obtain ⟨w1, hw1⟩ : ∃ w1, w.alloc (.cells (flc false false false false false false) 87) = w1 := ⟨_, rfl⟩
  have hb1 : Below w.heap.size w (w.alloc (.cells (flc false false false false false false) 87)) := (Below.refl _ _).alloc (Nat.le_refl _) _
  have hk1 : Bk (w.alloc (.cells (flc false false false false false false) 87)) w.heap.size 87 (flc false false false false false false) := heap_alloc_new w _
  rw [hw1] at hb1 hk1
  have hw2 := hw1
  unfold flc at hw2
  rw [hw2, hf]
  rw [hf] at hk1
  have HSW : Hid (LR B X p ml g f z w 0 w1) := Lib.hid ⟨fun _ => false, X, fun j hj => absurd hj (by omega), ⟨H.out.keep hb1, GO.keep hb1, ⟨_, _, _, _, _, _, hk1⟩, fun hx => by have := (H.out.xs f hx).2.1; omega, by omega, by have := H.out.ev.size; omega, by have := H.out.tb.lt; omega⟩⟩
  clear hb1 hk1 hw1 hw2 hf H
  go_wp2_with fail
  go_loopw [10] (fun i wr => ∃ k : Nat, k ≤ n ∧ i = .int .i64 k ∧ Hid (LR B X p ml g f z w k wr)) (fun i _ => n - (intOf i).toNat)
  case atStart => exact ⟨0, Nat.zero_le _, rfl, HSW⟩
  case round =>
    clear HSW
    obtain ⟨k, hk, rfl, HT⟩ := hrel
    by_cases hlt : k < n
    case neg =>
      obtain rfl : k = n := by omega
      have q1 : ¬ (k : Int) < k := by omega
      go_wp2_with fail
      go_end0
      obtain ⟨d, X1, h1, h2⟩ := HT.out
      exact ⟨rfl, X1, d, h1, h2.st, h2.go⟩
    have q0 : (0 : Int) ≤ k := by omega
    have q1 : (k : Int) < n := by omega
    obtain ⟨d, X1, hd, hsw⟩ := HT.out
    have HD := Lib.hid hd
    have hkl : k < z.1.length := by rw [HN.out]; exact hlt
    obtain ⟨⟨s, K, P⟩, he⟩ : ∃ x, z.1.getD k tk0 = x := ⟨_, rfl⟩
    have HL := Lib.hid (hsw.st.tok hkl he)
    have hsz := HS.out k hkl
    rw [he] at hsz
    have hdd : (stN (cS d ml) z k).1.getD k tk0 = (s, K, P) := (stN_later k (Nat.le_refl k)).trans he
    have HE := Lib.hid he
    have HP : Hid (SBd 2000000 (stN (cS d ml) z k).2) := Lib.hid ((stN_bd HB.out k).mono (by omega))
    have HQ : Hid (k < (stN (cS d ml) z k).1.length ∧ (((stN (cS d ml) z k).1.getD k tk0).1.size : Int) ≤ 1048576) := Lib.hid ⟨by rw [stN_len]; exact hkl, by rw [hdd]; exact hsz⟩
    have HSZ := Lib.hid hsz
    have HSW := Lib.hid hsw
    clear hkl he hsz hdd hd hsw HT
    go_upto_region 4 with (first | (refine wpList_load_mid rfl 39 _ rfl g (k * 7) rfl _ du HL.out HU.out hu2 szTok ?_))
    obtain ⟨q, hq⟩ : ∃ q, wr.heap.size = q := ⟨_, rfl⟩
    obtain ⟨wa, hwa⟩ : ∃ wa, wr.alloc (.cells #[.pointer none, .string s, .int .i32 0, .int .u32 P, .int .u16 0, .int .u8 K, .int .u8 0] 39) = wa := ⟨_, rfl⟩
    have hba : Below wr.heap.size wr (wr.alloc (.cells #[.pointer none, .string s, .int .i32 0, .int .u32 P, .int .u16 0, .int .u8 K, .int .u8 0] 39)) := (Below.refl _ _).alloc (Nat.le_refl _) _
    have hka : Bk (wr.alloc (.cells #[.pointer none, .string s, .int .i32 0, .int .u32 P, .int .u16 0, .int .u8 K, .int .u8 0] 39)) wr.heap.size 39 #[.pointer none, .string s, .int .i32 0, .int .u32 P, .int .u16 0, .int .u8 K, .int .u8 0] := heap_alloc_new wr _
    rw [hwa] at hba hka
    rw [hq] at hka
    rw [hwa, hq]
    have HSR : Hid (SR B X p ml g f q s (stN (cS d ml) z k) w X1 wa) := Lib.hid ⟨HSW.out.keep hba, hka.cell 1 rfl, hka.lt⟩
    have cK := hka.cell 5 rfl
    clear hba hka hwa hq HSW HL
    by_cases k10 : K = 10
    · subst k10
      obtain ⟨b0, b1, b2, b3, b4, b5, hfl⟩ := HSR.out.1.fl
      have f0 : wa.cell? ⟨f, 0, none⟩ = some (.bool b0) := hfl.cell 0 rfl
      have f1 : wa.cell? ⟨f, 1, none⟩ = some (.bool b1) := hfl.cell 1 rfl
      have f2 : wa.cell? ⟨f, 2, none⟩ = some (.bool b2) := hfl.cell 2 rfl
      have f3 : wa.cell? ⟨f, 3, none⟩ = some (.bool b3) := hfl.cell 3 rfl
      have f4 : wa.cell? ⟨f, 4, none⟩ = some (.bool b4) := hfl.cell 4 rfl
      have f5 : wa.cell? ⟨f, 5, none⟩ = some (.bool b5) := hfl.cell 5 rfl
      have z0 := hfl.frozen 0
      have z1 := hfl.frozen 1
      have z2 := hfl.frozen 2
      have z3 := hfl.frozen 3
      have z4 := hfl.frozen 4
      have z5 := hfl.frozen 5
      have cT := HSR.out.2.1
      clear hfl
      go_wp2_with fail
      exact ⟨⟨k + 1, by omega, by go_num, Lib.hid (LR.no HD.out (((((((HSR.out.1.set 0 false).set 1 false).set 2 false).set 3 false).set 4 false).set 5 false)))⟩, by simp [intOf]; omega⟩
    by_cases k30 : K = 30
    · subst k30
      obtain ⟨b0, b1, b2, b3, b4, b5, hfl⟩ := HSR.out.1.fl
      have f1 : wa.cell? ⟨f, 1, none⟩ = some (.bool b1) := hfl.cell 1 rfl
      have z1 := hfl.frozen 1
      clear hfl
      have cT := HSR.out.2.1
      cases b1
      · go_wp2_with fail
        exact ⟨⟨k + 1, by omega, by go_num, Lib.hid (LR.no HD.out (HSR.out.1.set 1 true))⟩, by simp [intOf]; omega⟩
      · go_wp2_with fail
        exact ⟨⟨k + 1, by omega, by go_num, Lib.hid (LR.no HD.out (HSR.out.1))⟩, by simp [intOf]; omega⟩
    by_cases k36 : K = 36
    · subst k36
      obtain ⟨b0, b1, b2, b3, b4, b5, hfl⟩ := HSR.out.1.fl
      have f5 : wa.cell? ⟨f, 5, none⟩ = some (.bool b5) := hfl.cell 5 rfl
      have z5 := hfl.frozen 5
      clear hfl
      have cT := HSR.out.2.1
      cases b5
      · skip
        go_wp2_with fail
        refine (ha_any p g k ml _ wa HSR.out.1.st HQ.out.1 HP.out HQ.out.2).mono ?_
        rintro e w3 ⟨rfl, X3, h1, h2⟩
        have HW := Lib.hid (HSR.out.1.step h1 h2)
        clear h1 h2
        obtain ⟨c0, c1, c2, c3, c4, c5, hfl⟩ := HW.out.fl
        have y5 : w3.cell? ⟨f, 5, none⟩ = some (.bool c5) := hfl.cell 5 rfl
        have x5 := hfl.frozen 5
        clear hfl
        go_wp2_with fail
        exact ⟨⟨k + 1, by omega, by go_num, Lib.hid (LR.yes HD.out (by rw [HE.out]; exact .inr rfl) (HW.out.set 5 true))⟩, by simp [intOf]; omega⟩
      · go_wp2_with fail
        exact ⟨⟨k + 1, by omega, by go_num, Lib.hid (LR.no HD.out (HSR.out.1))⟩, by simp [intOf]; omega⟩
    by_cases k29 : K = 29
    case neg =>
      have g1 : (K == 10) = false := by simpa using k10
      have g2 : (K == 30) = false := by simpa using k30
      have g3 : (K == 36) = false := by simpa using k36
      have g4 : (K == 29) = false := by simpa using k29
      go_wp2_with fail
      exact ⟨⟨k + 1, by omega, by go_num, Lib.hid (LR.no HD.out (HSR.out.1))⟩, by simp [intOf]; omega⟩
    subst k29
    clear k10 k30 k36
    obtain ⟨b0, b1, b2, b3, b4, b5, hfl⟩ := HSR.out.1.fl
    have f0 : wa.cell? ⟨f, 0, none⟩ = some (.bool b0) := hfl.cell 0 rfl
    have z0 := hfl.frozen 0
    clear hfl
    have cT := HSR.out.2.1
    go_upto_if 30 with fail
    go_cut [] (fun wc => Hid (SR B X p ml g f q s (stN (cS d ml) z k) w X1 wc))
    case first =>
      cases b0
      case true =>
        go_wp2_with fail
        go_meet
        exact HSR
      case false =>
        go_wp2_with fail
        refine (low_any s wa HSZ.out HSR.out.1.st.ev.tl).mono ?_
        rintro e wb ⟨rfl, hb⟩
        have HR2 := Lib.hid (HSR.out.keep hb)
        clear hb
        obtain ⟨u, hu⟩ : ∃ u, lowB s = u := ⟨_, rfl⟩
        rw [hu]
        clear hu
        go_upto_if 34 with fail
        go_cut [34] (fun sb wd => (∃ b : Bool, sb = .bool b) ∧ wd = wb)
        case first =>
          go_wp2_with fail
          all_goals go_meet
          all_goals exact ⟨⟨_, rfl⟩, rfl⟩
        case rest =>
          obtain ⟨⟨b, rfl⟩, rfl⟩ := hcut
          obtain ⟨e0, e1, e2, e3, e4, e5, hfl⟩ := HR2.out.1.fl
          have y0 : wc.cell? ⟨f, 0, none⟩ = some (.bool e0) := hfl.cell 0 rfl
          have x0 := hfl.frozen 0
          clear hfl
          cases b
          · go_wp2_with fail
            go_meet
            exact HR2
          · go_wp2_with fail
            exact ⟨⟨k + 1, by omega, by go_num, Lib.hid (LR.no HD.out (HR2.out.1.set 0 true))⟩, by simp [intOf]; omega⟩
    case rest =>
    clear f0 z0 cT HSR cK
    have HS0 := hcut
    clear hcut
    obtain ⟨b0, b1, b2, b3, b4, b5, hfl⟩ := HS0.out.1.fl
    have f1 : wc.cell? ⟨f, 1, none⟩ = some (.bool b1) := hfl.cell 1 rfl
    have z1 := hfl.frozen 1
    clear hfl
    have cT := HS0.out.2.1
    go_upto_region 21 with fail
    go_cut [51] (fun sb wd => (∃ b : Bool, sb = .bool b) ∧ Hid (SR B X p ml g f q s (stN (cS d ml) z k) w X1 wd))
    case first =>
      cases b1
      case true =>
        go_wp2_with fail
        go_meet
        exact ⟨⟨_, rfl⟩, HS0⟩
      case false =>
        go_wp2_with fail
        refine (low_any s wc HSZ.out HS0.out.1.st.ev.tl).mono ?_
        rintro e wb ⟨rfl, hb⟩
        have HR2 := Lib.hid (HS0.out.keep hb)
        clear hb
        obtain ⟨u, hu⟩ : ∃ u, lowB s = u := ⟨_, rfl⟩
        rw [hu]
        clear hu
        go_wp2_with fail
        go_meet
        exact ⟨⟨_, rfl⟩, HR2⟩
    case rest =>
    clear f1 z1 cT HS0
    obtain ⟨⟨b, rfl⟩, HS1⟩ := hcut
    obtain ⟨b0, b1, b2, b3, b4, b5, hfl⟩ := HS1.out.1.fl
    have f1 : wc.cell? ⟨f, 1, none⟩ = some (.bool b1) := hfl.cell 1 rfl
    have z1 := hfl.frozen 1
    clear hfl
    cases b
    case true =>
      go_wp2_with fail
      exact ⟨⟨k + 1, by omega, by go_num, Lib.hid (LR.no HD.out (HS1.out.1.set 1 true))⟩, by simp [intOf]; omega⟩
    clear f1 z1
    obtain ⟨b0, b1, b2, b3, b4, b5, hfl⟩ := HS1.out.1.fl
    have f2 : wc.cell? ⟨f, 2, none⟩ = some (.bool b2) := hfl.cell 2 rfl
    have z2 := hfl.frozen 2
    clear hfl
    have cT := HS1.out.2.1
    go_upto_if 55 with fail
    go_cut [] (fun wc => Hid (SR B X p ml g f q s (stN (cS d ml) z k) w X1 wc))
    case first =>
      cases b2
      case true =>
        go_wp2_with fail
        go_meet
        exact HS1
      case false =>
        go_wp2_with fail
        refine (low_any s wc HSZ.out HS1.out.1.st.ev.tl).mono ?_
        rintro e wb ⟨rfl, hb⟩
        have HR2 := Lib.hid (HS1.out.keep hb)
        clear hb
        obtain ⟨u, hu⟩ : ∃ u, lowB s = u := ⟨_, rfl⟩
        rw [hu]
        clear hu
        go_upto_if 59 with fail
        go_cut [59] (fun sb wd => (∃ b : Bool, sb = .bool b) ∧ wd = wb)
        case first =>
          go_wp2_with fail
          all_goals go_meet
          all_goals exact ⟨⟨_, rfl⟩, rfl⟩
        case rest =>
          obtain ⟨⟨b, rfl⟩, rfl⟩ := hcut
          obtain ⟨e0, e1, e2, e3, e4, e5, hfl⟩ := HR2.out.1.fl
          have y2 : wc.cell? ⟨f, 2, none⟩ = some (.bool e2) := hfl.cell 2 rfl
          have x2 := hfl.frozen 2
          clear hfl
          cases b
          · go_wp2_with fail
            go_meet
            exact HR2
          · go_wp2_with fail
            exact ⟨⟨k + 1, by omega, by go_num, Lib.hid (LR.no HD.out (HR2.out.1.set 2 true))⟩, by simp [intOf]; omega⟩
    case rest =>
    clear f2 z2 cT HS1
    have HS2 := hcut
    clear hcut
    obtain ⟨b0, b1, b2, b3, b4, b5, hfl⟩ := HS2.out.1.fl
    have f3 : wc.cell? ⟨f, 3, none⟩ = some (.bool b3) := hfl.cell 3 rfl
    have z3 := hfl.frozen 3
    clear hfl
    have cT := HS2.out.2.1
    go_upto_if 67 with fail
    go_cut [] (fun wc => Hid (SR B X p ml g f q s (stN (cS d ml) z k) w X1 wc))
    case first =>
      cases b3
      case true =>
        go_wp2_with fail
        go_meet
        exact HS2
      case false =>
        go_wp2_with fail
        refine (low_any s wc HSZ.out HS2.out.1.st.ev.tl).mono ?_
        rintro e wb ⟨rfl, hb⟩
        have HR2 := Lib.hid (HS2.out.keep hb)
        clear hb
        obtain ⟨u, hu⟩ : ∃ u, lowB s = u := ⟨_, rfl⟩
        rw [hu]
        clear hu
        go_upto_if 71 with fail
        go_cut [71] (fun sb wd => (∃ b : Bool, sb = .bool b) ∧ wd = wb)
        case first =>
          go_wp2_with fail
          all_goals go_meet
          all_goals exact ⟨⟨_, rfl⟩, rfl⟩
        case rest =>
          obtain ⟨⟨b, rfl⟩, rfl⟩ := hcut
          obtain ⟨e0, e1, e2, e3, e4, e5, hfl⟩ := HR2.out.1.fl
          have y3 : wc.cell? ⟨f, 3, none⟩ = some (.bool e3) := hfl.cell 3 rfl
          have x3 := hfl.frozen 3
          clear hfl
          cases b
          · go_wp2_with fail
            go_meet
            exact HR2
          · go_wp2_with fail
            exact ⟨⟨k + 1, by omega, by go_num, Lib.hid (LR.no HD.out (HR2.out.1.set 3 true))⟩, by simp [intOf]; omega⟩
    case rest =>
    clear f3 z3 cT HS2
    have HS3 := hcut
    clear hcut
    obtain ⟨b0, b1, b2, b3, b4, b5, hfl⟩ := HS3.out.1.fl
    have f4 : wc.cell? ⟨f, 4, none⟩ = some (.bool b4) := hfl.cell 4 rfl
    have z4 := hfl.frozen 4
    clear hfl
    have cT := HS3.out.2.1
    go_upto_if 79 with fail
    go_cut [] (fun wc => Hid (SR B X p ml g f q s (stN (cS d ml) z k) w X1 wc))
    case first =>
      cases b4
      case true =>
        go_wp2_with fail
        go_meet
        exact HS3
      case false =>
        go_wp2_with fail
        refine (low_any s wc HSZ.out HS3.out.1.st.ev.tl).mono ?_
        rintro e wb ⟨rfl, hb⟩
        have HR2 := Lib.hid (HS3.out.keep hb)
        clear hb
        obtain ⟨u, hu⟩ : ∃ u, lowB s = u := ⟨_, rfl⟩
        rw [hu]
        clear hu
        go_upto_if 83 with fail
        go_cut [83] (fun sb wd => (∃ b : Bool, sb = .bool b) ∧ wd = wb)
        case first =>
          go_wp2_with fail
          all_goals go_meet
          all_goals exact ⟨⟨_, rfl⟩, rfl⟩
        case rest =>
          obtain ⟨⟨b, rfl⟩, rfl⟩ := hcut
          obtain ⟨e0, e1, e2, e3, e4, e5, hfl⟩ := HR2.out.1.fl
          have y4 : wc.cell? ⟨f, 4, none⟩ = some (.bool e4) := hfl.cell 4 rfl
          have x4 := hfl.frozen 4
          clear hfl
          cases b
          · go_wp2_with fail
            go_meet
            exact HR2
          · go_wp2_with fail
            exact ⟨⟨k + 1, by omega, by go_num, Lib.hid (LR.no HD.out (HR2.out.1.set 4 true))⟩, by simp [intOf]; omega⟩
    case rest =>
    clear f4 z4 cT HS3
    have HS4 := hcut
    clear hcut
    obtain ⟨b0, b1, b2, b3, b4, b5, hfl⟩ := HS4.out.1.fl
    have f5 : wc.cell? ⟨f, 5, none⟩ = some (.bool b5) := hfl.cell 5 rfl
    have z5 := hfl.frozen 5
    clear hfl
    have cT := HS4.out.2.1
    cases b5
    · skip
      go_wp2_with fail
      refine (ha_any p g k ml _ wc HS4.out.1.st HQ.out.1 HP.out HQ.out.2).mono ?_
      rintro e w3 ⟨rfl, X3, h1, h2⟩
      have HW := Lib.hid (HS4.out.1.step h1 h2)
      clear h1 h2
      obtain ⟨c0, c1, c2, c3, c4, c5, hfl⟩ := HW.out.fl
      have y5 : w3.cell? ⟨f, 5, none⟩ = some (.bool c5) := hfl.cell 5 rfl
      have x5 := hfl.frozen 5
      clear hfl
      go_wp2_with fail
      exact ⟨⟨k + 1, by omega, by go_num, Lib.hid (LR.yes HD.out (by rw [HE.out]; exact .inl rfl) (HW.out.set 5 true))⟩, by simp [intOf]; omega⟩
    · go_wp2_with fail
      exact ⟨⟨k + 1, by omega, by go_num, Lib.hid (LR.no HD.out (HS4.out.1))⟩, by simp [intOf]; omega⟩
end Go.Proofs.YtppgilppnnliiaaDoor.Sy
