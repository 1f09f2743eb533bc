/-
  The parser's eat and expect; parseBlock and parseComponentValue end where the machine ends.
-/
import Derived.Test.YtelpdhhcpdagbaaFmtPs
import Derived.Deep.LoopGhost
import Derived.BigFrame
import Derived.Deep.Cut
import Derived.WalkMore
namespace Go.Proofs.YtelpdhhcpdagbaaFmt.Av
open Go.ChangeShapes Go.WideShapes Go.ChangeAt Go.RowKit Rg
set_option linter.unusedVariables false
section
variable (b g n : Nat) (S L K : Nat → Int) (C : ByteArray) (v : Value) (w : World)
def EatY (c : Nat) (e : Ending) (w' : World) : Prop := e = .returned (.bool true) ∧ PT b g n S L K C (c + 1 : Nat) v w' ∧ w.grownBy w' (some b)
set_option maxRecDepth 100000 in
set_option maxHeartbeats 1000000 in
theorem eat_yes (c : Nat) (h : PT b g n S L K C c v w) (hn : (n : Int) ≤ 1048576) (hlt : c < n) (x : Int) (hx : (x == kat n K c) = true) :
    Calls Tryf.prog 24 #[.pointer (some ⟨b, 0, none⟩), .int .u8 x] w (EatY b g n S L K C v w c) := by
  have H := Lib.hid h
  have HX := Lib.hid hx
  clear h hx
  go_enter Tryf.func24, Tryf.ntmps24
  go_wp2_with fail
  refine (peek_any b g n S L K C v _ c H.out x true HX.out).mono ?_
  rintro e w1 ⟨rfl, hb⟩
  have HS := Lib.hid (H.out.keep hb)
  have HB := Lib.hid hb
  clear hb H HX
  go_wp2_with fail
  refine (advance_any b g n S L K C v _ c HS.out hn hlt).mono ?_
  rintro e w2 ⟨rfl, hp, hg⟩
  have HR := Lib.hid (And.intro hp ((grown_below HB.out (some b)).trans hg))
  clear hp hg HS HB
  go_wp2_with fail
  go_ret
  exact ⟨rfl, HR.out.1, HR.out.2⟩
def EatN (e : Ending) (w' : World) : Prop := e = .returned (.bool false) ∧ Below w.heap.size w w'
set_option maxRecDepth 100000 in
set_option maxHeartbeats 1000000 in
theorem eat_no (c : Nat) (h : PT b g n S L K C c v w) (x : Int) (hx : (x == kat n K c) = false) :
    Calls Tryf.prog 24 #[.pointer (some ⟨b, 0, none⟩), .int .u8 x] w (EatN w) := by
  have H := Lib.hid h
  have HX := Lib.hid hx
  clear h hx
  go_enter Tryf.func24, Tryf.ntmps24
  go_wp2_with fail
  refine (peek_any b g n S L K C v _ c H.out x false HX.out).mono ?_
  rintro e w1 ⟨rfl, hb⟩
  have HB := Lib.hid hb
  clear hb H HX
  go_wp2_with fail
  go_ret
  exact ⟨rfl, HB.out⟩
set_option maxRecDepth 100000 in
set_option maxHeartbeats 1000000 in
theorem expm_yes (c : Nat) (h : PT b g n S L K C c v w) (hn : (n : Int) ≤ 1048576) (hlt : c < n) (x y : Int) (hx : (x == kat n K c) = true) :
    Calls Tryf.prog 26 #[.pointer (some ⟨b, 0, none⟩), .int .u8 x, .agg #[.int .i32 y]] w (EatY b g n S L K C v w c) := by
  have H := Lib.hid (h.keep ((Below.refl _ _).alloc (Nat.le_refl _) (.cells #[.int .i32 y] 36)))
  have HX := Lib.hid hx
  clear h hx
  go_enter Tryf.func26, Tryf.ntmps26
  go_wp2_with fail
  refine (eat_yes b g n S L K C v _ c H.out hn hlt x HX.out).mono ?_
  rintro e w1 ⟨rfl, hp, hg⟩
  have HR := Lib.hid (And.intro hp ((grown_alloc w (.cells #[.int .i32 y] 36) (some b)).trans hg))
  clear hp hg H HX
  go_wp2_with fail
  go_ret
  exact ⟨rfl, HR.out.1, HR.out.2⟩
set_option maxRecDepth 100000 in
set_option maxHeartbeats 1000000 in
theorem expect_yes (c : Nat) (h : PT b g n S L K C c v w) (hn : (n : Int) ≤ 1048576) (hlt : c < n) (x : Int) (hx : (x == kat n K c) = true) :
    Calls Tryf.prog 23 #[.pointer (some ⟨b, 0, none⟩), .int .u8 x] w (EatY b g n S L K C v w c) := by
  have H := Lib.hid h
  have HX := Lib.hid hx
  clear h hx
  go_enter Tryf.func23, Tryf.ntmps23
  go_wp2_with fail
  refine (expm_yes b g n S L K C v _ c H.out hn hlt x (-1) HX.out).mono ?_
  rintro e w1 ⟨rfl, hp, hg⟩
  have HR := Lib.hid (And.intro hp hg)
  clear hp hg H HX
  go_wp2_with fail
  go_ret
  exact ⟨rfl, HR.out.1, HR.out.2⟩
end
def EndP (w : World) (e : Ending) (w' : World) : Prop := ∃ x : Int, e = .returned (.int .i32 x) ∧ Below w.heap.size w w'
set_option maxRecDepth 100000 in
set_option maxHeartbeats 1000000 in
theorem end_any (s l : Int) (w : World) : Calls Tryf.prog 22 #[.agg #[.int .i32 s, .int .i32 l]] w (EndP w) := by
  go_enter Tryf.func22, Tryf.ntmps22
  go_wp2
  go_ret
  exact ⟨_, rfl, (Below.refl _ _).alloc (Nat.le_refl _) _⟩
section
variable (b g n : Nat) (S L Q : Nat → Int) (C : ByteArray) (v : Value)
def PcP (i : Nat) (w : World) (e : Ending) (w' : World) : Prop := ∃ j : Nat, e = .returned (.tuple #[]) ∧ i < j ∧ j ≤ n ∧ PT b g n S L (fun j => kd (Q j)) C j v w' ∧ w.grownBy w' (some b) ∧
  (0 ≤ cl (Q i) → ∀ st, M n Q (cl (Q i) :: st) (i + 1) = M n Q st j) ∧ (¬ 0 ≤ cl (Q i) → j = i + 1)
def Pcv (m : Nat) : Prop := ∀ (i : Nat) (w : World), n - i ≤ m → i < n → PT b g n S L (fun j => kd (Q j)) C i v w → (0 ≤ cl (Q i) → ∃ st e, M n Q (cl (Q i) :: st) (i + 1) = some e) →
  Calls Tryf.prog 15 #[.pointer (some ⟨b, 0, none⟩)] w (PcP b g n S L Q C v i w)
def BlP (cw : Int) (i : Nat) (w : World) (e : Ending) (w' : World) : Prop := ∃ j : Nat, e = .returned (.tuple #[]) ∧ i < j ∧ j ≤ n ∧ PT b g n S L (fun j => kd (Q j)) C j v w' ∧ w.grownBy w' (some b) ∧
  ∀ st, M n Q (cw :: st) (i + 1) = M n Q st j
theorem kat_kd {i : Nat} (h : i < n) : kat n (fun j => kd (Q j)) i = kd (Q i) := if_pos h
set_option maxRecDepth 100000 in
set_option maxHeartbeats 4000000 in
theorem block_any (hn : (n : Int) ≤ 1048576) (hQ : ∀ j, j < n → 0 ≤ Q j ∧ Q j ≤ 14) (m : Nat) (ih : ∀ m', m' < m → Pcv b g n S L Q C v m') (i : Nat) (w : World) (hm : n - i ≤ m) (hi : i < n)
    (h : PT b g n S L (fun j => kd (Q j)) C i v w) (op c cw : Int) (hop : kd (Q i) = op) (hc : kd cw = c) (hcw : cw = 7 ∨ cw = 9 ∨ cw = 11) (hex : ∃ st e, M n Q (cw :: st) (i + 1) = some e) :
    Calls Tryf.prog 18 #[.pointer (some ⟨b, 0, none⟩), .int .u8 op, .int .u8 c] w (BlP b g n S L Q C v cw i w) := by
  have H := Lib.hid h
  have HQ := Lib.hid hQ
  have IH := Lib.hid ih
  have HM := Lib.hid hm
  have HO := Lib.hid (show (op == kat n (fun j => kd (Q j)) i) = true by rw [kat_kd n Q hi, hop]; simp)
  have HC := Lib.hid hc
  have HW := Lib.hid hcw
  have HE := Lib.hid hex
  have HI := Lib.hid hi
  clear h hQ ih hm hop hc hcw hex hi
  go_enter Tryf.func18, Tryf.ntmps18
  go_wp2_with fail
  refine (current_any b g n S L _ C v _ i H.out).mono ?_
  rintro e w1 ⟨rfl, hb⟩
  unfold tokAt
  generalize startAt n S C i = ts
  generalize lenAt n L i = tl
  generalize kat n (fun j => kd (Q j)) i = tk
  have HB := Lib.hid (hb.alloc hb.size (.cells #[.int .i32 ts, .int .i32 tl, .int .u16 0, .int .u8 tk, .int .u8 0] 44))
  have HSZ := Lib.hid hb.size
  clear hb
  go_wp2_with fail
  refine (end_any ts tl _).mono ?_
  rintro e w2 ⟨x, rfl, hb2⟩
  have hbz := HB.out.trans (hb2.mono (by have := HSZ.out; simp; omega))
  have H2 := Lib.hid (H.out.keep hbz)
  have HB2 := Lib.hid hbz
  clear hbz hb2 HB HSZ H
  go_wp2_with fail
  refine (expect_yes b g n S L _ C v _ i H2.out hn HI.out op HO.out).mono ?_
  rintro e w3 ⟨rfl, hp, hg⟩
  have H3 := Lib.hid hp
  have HG3 := Lib.hid ((grown_below HB2.out (some b)).trans hg)
  clear hp hg H2 HB2 HO
  go_wp2_with fail
  have HI1 := Lib.hid (show i + 1 ≤ n from HI.out)
  go_loopg [] (n - (i + 1)) (fun gh wr => ∃ t : Nat, i + 1 ≤ t ∧ t ≤ n ∧ Hid (gh = n - t) ∧ Hid (PT b g n S L (fun j => kd (Q j)) C t v wr) ∧ Hid (w.grownBy wr (some b)) ∧ Hid (∀ st, M n Q (cw :: st) (i + 1) = M n Q (cw :: st) t))
  case atStart => exact ⟨i + 1, Nat.le_refl _, HI1.out, Lib.hid rfl, H3, HG3, Lib.hid (fun _ => rfl)⟩
  case round =>
    clear H3 HG3 HI1
    obtain ⟨t, hit, htn, HGh, HP, HG, HR⟩ := hrel
    have htl : t < n := by
      rcases Nat.lt_or_ge t n with h | h
      · exact h
      · obtain ⟨st, e, he⟩ := HE.out
        rw [HR.out, M_end h] at he
        cases he
    have hr := HQ.out t htl
    by_cases hk : kid (Q t) = cw
    · as_aux_lemma =>
      have HK := Lib.hid (show (c == kat n (fun j => kd (Q j)) t) = true by rw [kat_kd n Q htl, ← HC.out, kd_eq hr HW.out]; simp [hk])
      have HN := Lib.hid (show ∀ st, M n Q (cw :: st) (i + 1) = M n Q st (t + 1) from fun st => by rw [HR.out, M_pop htl hk])
      clear hr hk
      go_wp2_with fail
      refine (eat_yes b g n S L _ C v _ t HP.out hn htl c HK.out).mono ?_
      rintro e w4 ⟨rfl, hp, hg⟩
      have HF := Lib.hid (And.intro hp (HG.out.trans hg))
      clear hp hg HP HG
      go_wp2_with fail
      go_end0
      exact ⟨t + 1, rfl, by omega, by omega, HF.out.1, HF.out.2, HN.out⟩
    · as_aux_lemma =>
      have HK := Lib.hid (show (c == kat n (fun j => kd (Q j)) t) = false by rw [kat_kd n Q htl, ← HC.out, kd_eq hr HW.out]; simp [hk])
      have HK0 := Lib.hid (show ((0 : Int) == kat n (fun j => kd (Q j)) t) = false by rw [kat_kd n Q htl]; have := kd_pos hr; simp; omega)
      have HCL := Lib.hid (cl_kid hr)
      have HX : Hid (0 ≤ cl (Q t) → ∃ st e, M n Q (cl (Q t) :: st) (t + 1) = some e) := Lib.hid (fun h0 => by
        obtain ⟨st, e, he⟩ := HE.out
        rw [HR.out, M_open htl hk (by rw [HCL.out]; exact h0), HCL.out] at he
        exact ⟨_, _, he⟩)
      have HNX : Hid (∀ t', (0 ≤ cl (Q t) → ∀ st, M n Q (cl (Q t) :: st) (t + 1) = M n Q st t') → (¬ 0 ≤ cl (Q t) → t' = t + 1) → ∀ st, M n Q (cw :: st) (i + 1) = M n Q (cw :: st) t') := Lib.hid (fun t' h1 h2 st => by
        by_cases h0 : 0 ≤ cl (Q t)
        · rw [HR.out, M_open htl hk (by rw [HCL.out]; exact h0), HCL.out, h1 h0]
        · rw [HR.out, M_other htl hk (by rw [HCL.out]; exact h0), h2 h0])
      clear hr hk HCL
      go_wp2_with fail
      refine (eat_no b g n S L _ C v _ t HP.out c HK.out).mono ?_
      rintro e w4 ⟨rfl, hb4⟩
      have HP4 := Lib.hid (HP.out.keep hb4)
      have HG4 := Lib.hid (HG.out.trans (grown_below hb4 (some b)))
      clear hb4 HP HG HK
      go_wp2_with fail
      refine (peek_any b g n S L _ C v _ t HP4.out 0 false HK0.out).mono ?_
      rintro e w5 ⟨rfl, hb5⟩
      have HP5 := Lib.hid (HP4.out.keep hb5)
      have HG5 := Lib.hid (HG4.out.trans (grown_below hb5 (some b)))
      clear hb5 HP4 HG4 HK0
      go_wp2_with fail
      refine (show Calls Tryf.prog 15 #[.pointer (some ⟨b, 0, none⟩)] w5 (PcP b g n S L Q C v t w5) from IH.out (n - t) (by have := HM.out; omega) t w5 (Nat.le_refl _) htl HP5.out HX.out).mono ?_
      rintro e w6 ⟨t', rfl, h1, h2, h3, h4, h5, h6⟩
      have HP6 := Lib.hid h3
      have HG6 := Lib.hid (HG5.out.trans h4)
      have HR6 := Lib.hid (HNX.out t' h5 (fun h => h6 (by omega)))
      clear h3 h4 h5 h6 HP5 HG5 HNX HX
      go_wp2_with fail
      go_roundg (n - t')
      case measure => have := HGh.out; omega
      case rel => exact ⟨t', by omega, h2, Lib.hid rfl, HP6, HG6, HR6⟩
set_option maxRecDepth 100000 in
set_option maxHeartbeats 4000000 in
theorem pcv_any (hn : (n : Int) ≤ 1048576) (hQ : ∀ j, j < n → 0 ≤ Q j ∧ Q j ≤ 14) (m : Nat) : Pcv b g n S L Q C v m := by
  induction m using Nat.strongRecOn with
  | _ m ih =>
  intro i w hm hi h hx
  have H := Lib.hid h
  have HX := Lib.hid hx
  have IH := Lib.hid ih
  have HQ := Lib.hid hQ
  have hr := hQ i hi
  clear h hx ih hQ
  go_enter Tryf.func15, Tryf.ntmps15
  go_wp2_with fail
  refine (current_any b g n S L _ C v _ i H.out).mono ?_
  rintro e w1 ⟨rfl, hb⟩
  have H1 := Lib.hid (H.out.keep hb)
  have HB := Lib.hid hb
  have HG := Lib.hid (grown_below hb (some b))
  clear hb H
  unfold tokAt
  rw [kat_kd n Q hi]
  generalize startAt n S C i = ts
  generalize lenAt n L i = tl
  obtain ⟨k, hk⟩ : ∃ k, k = Q i := ⟨_, rfl⟩
  rw [← hk] at hr ⊢
  have HK := Lib.hid hk.symm
  clear hk
  rcases cls_cases hr with rfl | rfl | rfl | rfl | rfl | rfl | rfl | rfl | rfl | rfl | rfl | rfl | rfl | rfl | rfl
  · as_aux_lemma =>
      clear hr
      have hf := field_kind ts tl (kd 0)
      rw [show kd 0 = 38 from by decide] at hf ⊢
      go_wp2_with fail
      refine (advance_any b g n S L _ C v _ i H1.out hn hi).mono ?_
      rintro e w2 ⟨rfl, h3, h4⟩
      have HR := Lib.hid (And.intro h3 (HG.out.trans h4))
      clear h3 h4 hf
      go_wp2_with fail
      go_end0
      exact ⟨i + 1, rfl, by omega, hi, HR.out.1, HR.out.2, fun h0 => absurd h0 (by rw [HK.out]; decide), fun _ => rfl⟩
  · as_aux_lemma =>
      clear hr
      have hf := field_kind ts tl (kd 1)
      rw [show kd 1 = 29 from by decide] at hf ⊢
      go_wp2_with fail
      refine (advance_any b g n S L _ C v _ i H1.out hn hi).mono ?_
      rintro e w2 ⟨rfl, h3, h4⟩
      have HR := Lib.hid (And.intro h3 (HG.out.trans h4))
      clear h3 h4 hf
      go_wp2_with fail
      go_end0
      exact ⟨i + 1, rfl, by omega, hi, HR.out.1, HR.out.2, fun h0 => absurd h0 (by rw [HK.out]; decide), fun _ => rfl⟩
  · as_aux_lemma =>
      clear hr
      have hf := field_kind ts tl (kd 2)
      rw [show kd 2 = 29 from by decide] at hf ⊢
      go_wp2_with fail
      refine (advance_any b g n S L _ C v _ i H1.out hn hi).mono ?_
      rintro e w2 ⟨rfl, h3, h4⟩
      have HR := Lib.hid (And.intro h3 (HG.out.trans h4))
      clear h3 h4 hf
      go_wp2_with fail
      go_end0
      exact ⟨i + 1, rfl, by omega, hi, HR.out.1, HR.out.2, fun h0 => absurd h0 (by rw [HK.out]; decide), fun _ => rfl⟩
  · as_aux_lemma =>
      clear hr
      have hf := field_kind ts tl (kd 3)
      rw [show kd 3 = 9 from by decide] at hf ⊢
      go_wp2_with fail
      refine (advance_any b g n S L _ C v _ i H1.out hn hi).mono ?_
      rintro e w2 ⟨rfl, h3, h4⟩
      have HR := Lib.hid (And.intro h3 (HG.out.trans h4))
      clear h3 h4 hf
      go_wp2_with fail
      go_end0
      exact ⟨i + 1, rfl, by omega, hi, HR.out.1, HR.out.2, fun h0 => absurd h0 (by rw [HK.out]; decide), fun _ => rfl⟩
  · as_aux_lemma =>
      clear hr
      have hf := field_kind ts tl (kd 4)
      rw [show kd 4 = 35 from by decide] at hf ⊢
      go_wp2_with fail
      refine (advance_any b g n S L _ C v _ i H1.out hn hi).mono ?_
      rintro e w2 ⟨rfl, h3, h4⟩
      have HR := Lib.hid (And.intro h3 (HG.out.trans h4))
      clear h3 h4 hf
      go_wp2_with fail
      go_end0
      exact ⟨i + 1, rfl, by omega, hi, HR.out.1, HR.out.2, fun h0 => absurd h0 (by rw [HK.out]; decide), fun _ => rfl⟩
  · as_aux_lemma =>
      clear hr
      have hf := field_kind ts tl (kd 5)
      rw [show kd 5 = 27 from by decide] at hf ⊢
      go_wp2_with fail
      refine (block_any b g n S L Q C v hn HQ.out m IH.out i w1 hm hi H1.out 27 8 7 (by rw [HK.out]; decide) (by decide) (by decide) (by have := HX.out (by rw [HK.out]; decide); rw [HK.out] at this; exact this)).mono ?_
      rintro e w2 ⟨j, rfl, h1, h2, h3, h4, h5⟩
      have HR := Lib.hid (And.intro h3 (And.intro (HG.out.trans h4) h5))
      clear h3 h4 h5 hf
      go_wp2_with fail
      go_end0
      exact ⟨j, rfl, h1, h2, HR.out.1, HR.out.2.1, fun _ st => by rw [HK.out]; exact HR.out.2.2 st, fun h0 => absurd (by rw [HK.out]; decide) h0⟩
  · as_aux_lemma =>
      clear hr
      have hf := field_kind ts tl (kd 6)
      rw [show kd 6 = 33 from by decide] at hf ⊢
      go_wp2_with fail
      refine (block_any b g n S L Q C v hn HQ.out m IH.out i w1 hm hi H1.out 33 8 7 (by rw [HK.out]; decide) (by decide) (by decide) (by have := HX.out (by rw [HK.out]; decide); rw [HK.out] at this; exact this)).mono ?_
      rintro e w2 ⟨j, rfl, h1, h2, h3, h4, h5⟩
      have HR := Lib.hid (And.intro h3 (And.intro (HG.out.trans h4) h5))
      clear h3 h4 h5 hf
      go_wp2_with fail
      go_end0
      exact ⟨j, rfl, h1, h2, HR.out.1, HR.out.2.1, fun _ st => by rw [HK.out]; exact HR.out.2.2 st, fun h0 => absurd (by rw [HK.out]; decide) h0⟩
  · as_aux_lemma =>
      clear hr
      have hf := field_kind ts tl (kd 7)
      rw [show kd 7 = 8 from by decide] at hf ⊢
      go_wp2_with fail
      refine (advance_any b g n S L _ C v _ i H1.out hn hi).mono ?_
      rintro e w2 ⟨rfl, h3, h4⟩
      have HR := Lib.hid (And.intro h3 (HG.out.trans h4))
      clear h3 h4 hf
      go_wp2_with fail
      go_end0
      exact ⟨i + 1, rfl, by omega, hi, HR.out.1, HR.out.2, fun h0 => absurd h0 (by rw [HK.out]; decide), fun _ => rfl⟩
  · as_aux_lemma =>
      clear hr
      have hf := field_kind ts tl (kd 8)
      rw [show kd 8 = 32 from by decide] at hf ⊢
      go_wp2_with fail
      refine (block_any b g n S L Q C v hn HQ.out m IH.out i w1 hm hi H1.out 32 7 9 (by rw [HK.out]; decide) (by decide) (by decide) (by have := HX.out (by rw [HK.out]; decide); rw [HK.out] at this; exact this)).mono ?_
      rintro e w2 ⟨j, rfl, h1, h2, h3, h4, h5⟩
      have HR := Lib.hid (And.intro h3 (And.intro (HG.out.trans h4) h5))
      clear h3 h4 h5 hf
      go_wp2_with fail
      go_end0
      exact ⟨j, rfl, h1, h2, HR.out.1, HR.out.2.1, fun _ st => by rw [HK.out]; exact HR.out.2.2 st, fun h0 => absurd (by rw [HK.out]; decide) h0⟩
  · as_aux_lemma =>
      clear hr
      have hf := field_kind ts tl (kd 9)
      rw [show kd 9 = 7 from by decide] at hf ⊢
      go_wp2_with fail
      refine (advance_any b g n S L _ C v _ i H1.out hn hi).mono ?_
      rintro e w2 ⟨rfl, h3, h4⟩
      have HR := Lib.hid (And.intro h3 (HG.out.trans h4))
      clear h3 h4 hf
      go_wp2_with fail
      go_end0
      exact ⟨i + 1, rfl, by omega, hi, HR.out.1, HR.out.2, fun h0 => absurd h0 (by rw [HK.out]; decide), fun _ => rfl⟩
  · as_aux_lemma =>
      clear hr
      have hf := field_kind ts tl (kd 10)
      rw [show kd 10 = 31 from by decide] at hf ⊢
      go_wp2_with fail
      refine (block_any b g n S L Q C v hn HQ.out m IH.out i w1 hm hi H1.out 31 6 11 (by rw [HK.out]; decide) (by decide) (by decide) (by have := HX.out (by rw [HK.out]; decide); rw [HK.out] at this; exact this)).mono ?_
      rintro e w2 ⟨j, rfl, h1, h2, h3, h4, h5⟩
      have HR := Lib.hid (And.intro h3 (And.intro (HG.out.trans h4) h5))
      clear h3 h4 h5 hf
      go_wp2_with fail
      go_end0
      exact ⟨j, rfl, h1, h2, HR.out.1, HR.out.2.1, fun _ st => by rw [HK.out]; exact HR.out.2.2 st, fun h0 => absurd (by rw [HK.out]; decide) h0⟩
  · as_aux_lemma =>
      clear hr
      have hf := field_kind ts tl (kd 11)
      rw [show kd 11 = 6 from by decide] at hf ⊢
      go_wp2_with fail
      refine (advance_any b g n S L _ C v _ i H1.out hn hi).mono ?_
      rintro e w2 ⟨rfl, h3, h4⟩
      have HR := Lib.hid (And.intro h3 (HG.out.trans h4))
      clear h3 h4 hf
      go_wp2_with fail
      go_end0
      exact ⟨i + 1, rfl, by omega, hi, HR.out.1, HR.out.2, fun h0 => absurd h0 (by rw [HK.out]; decide), fun _ => rfl⟩
  · as_aux_lemma =>
      clear hr
      have hf := field_kind ts tl (kd 12)
      rw [show kd 12 = 10 from by decide] at hf ⊢
      go_wp2_with fail
      refine (advance_any b g n S L _ C v _ i H1.out hn hi).mono ?_
      rintro e w2 ⟨rfl, h3, h4⟩
      have HR := Lib.hid (And.intro h3 (HG.out.trans h4))
      clear h3 h4 hf
      go_wp2_with fail
      go_end0
      exact ⟨i + 1, rfl, by omega, hi, HR.out.1, HR.out.2, fun h0 => absurd h0 (by rw [HK.out]; decide), fun _ => rfl⟩
  · as_aux_lemma =>
      clear hr
      have hf := field_kind ts tl (kd 13)
      rw [show kd 13 = 29 from by decide] at hf ⊢
      go_wp2_with fail
      refine (advance_any b g n S L _ C v _ i H1.out hn hi).mono ?_
      rintro e w2 ⟨rfl, h3, h4⟩
      have HR := Lib.hid (And.intro h3 (HG.out.trans h4))
      clear h3 h4 hf
      go_wp2_with fail
      go_end0
      exact ⟨i + 1, rfl, by omega, hi, HR.out.1, HR.out.2, fun h0 => absurd h0 (by rw [HK.out]; decide), fun _ => rfl⟩
  · as_aux_lemma =>
      clear hr
      have hf := field_kind ts tl (kd 14)
      rw [show kd 14 = 19 from by decide] at hf ⊢
      go_wp2_with fail
      refine (advance_any b g n S L _ C v _ i H1.out hn hi).mono ?_
      rintro e w2 ⟨rfl, h3, h4⟩
      have HR := Lib.hid (And.intro h3 (HG.out.trans h4))
      clear h3 h4 hf
      go_wp2_with fail
      go_end0
      exact ⟨i + 1, rfl, by omega, hi, HR.out.1, HR.out.2, fun h0 => absurd h0 (by rw [HK.out]; decide), fun _ => rfl⟩
end
end Go.Proofs.YtelpdhhcpdagbaaFmt.Av
