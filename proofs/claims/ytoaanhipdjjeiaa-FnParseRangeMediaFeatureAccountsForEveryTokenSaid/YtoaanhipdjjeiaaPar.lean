import Derived.Test.YtoaanhipdjjeiaaAny
namespace Go.Proofs.Ytoaanhipdjjeiaa.Scan
open Go.ChangeShapes Go.WideShapes Go.ChangeAt Go.RowKit Go.Deep
set_option linter.unusedVariables false
/-- what a parsed range at block q says of the tokens in block g -/
def Good (g n q : Nat) (K S L : Nat → Int) (T : Nat → ByteArray) (w' : World) : Prop :=
  ∃ (AB AA : Option Addr) (b a cB cA : Nat) (cb ca : Int), (w'.cell? ⟨q, 0, none⟩ = some (.slice AB b cB) ∧ w'.cell? ⟨q, 1, none⟩ = some (.string (T (b + widthN cb))) ∧ w'.cell? ⟨q, 2, none⟩ = some (.slice AA a cA) ∧ w'.cell? ⟨q, 3, none⟩ = some (.int .i32 (L (b + widthN cb))) ∧ w'.cell? ⟨q, 4, none⟩ = some (.int .u8 cb) ∧ w'.cell? ⟨q, 5, none⟩ = some (.int .u8 ca)) ∧
    (0 < b → AB = some ⟨g, 0, none⟩) ∧ (0 < a → AA = some ⟨g, (b + widthN cb + 1 + widthN ca) * 7, none⟩) ∧ (0 ≤ cb ∧ cb ≤ 5 ∧ 0 ≤ ca ∧ ca ≤ 5) ∧ OpAt n K S b cb ∧ K (b + widthN cb) = 29 ∧ OpAt n K S (b + widthN cb + 1) ca ∧ b + widthN cb + 1 + widthN ca + a = n
def ParP (B g n : Nat) (K S L : Nat → Int) (T : Nat → ByteArray) (w0 : World) (e : Ending) (w' : World) : Prop :=
  (e = .returned (.tuple #[.pointer none, .bool false]) ∧ Below B w0 w') ∨ ∃ q, e = .returned (.tuple #[.pointer (some ⟨q, 0, none⟩), .bool true]) ∧ Good g n q K S L T w' ∧ TB B g n n K S L T w0 w'
theorem par_good {B g n P q : Nat} {K S L : Nat → Int} {T : Nat → ByteArray} {w0 w3 w5 : World} (h : TB B g n P K S L T w0 w3) (hP : P ≤ n) (hb : Below w3.heap.size w3 w5) (hq : q = w5.heap.size) {AB AA : Option Addr} {b a cB cA : Nat} {cb ca l : Int} {t : ByteArray} (ht : t = T (b + widthN cb)) (hl : l = L (b + widthN cb))
    (hAB : 0 < b → AB = some ⟨g, 0, none⟩) (hAA : 0 < a → AA = some ⟨g, (b + widthN cb + 1 + widthN ca) * 7, none⟩) (hc : 0 ≤ cb ∧ cb ≤ 5 ∧ 0 ≤ ca ∧ ca ≤ 5) (o1 : OpAt n K S b cb) (hk : K (b + widthN cb) = 29) (o2 : OpAt n K S (b + widthN cb + 1) ca) (hs : b + widthN cb + 1 + widthN ca + a = n) :
    ParP B g n K S L T w0 (.returned (.tuple #[.pointer (some ⟨q, 0, none⟩), .bool true])) (w5.alloc (.cells #[.slice AB b cB, .string t, .slice AA a cA, .int .i32 l, .int .u8 cb, .int .u8 ca] 35)) := by
  subst hq ht hl
  refine .inr ⟨_, rfl, ⟨AB, AA, b, a, cB, cA, cb, ca, ⟨?_, ?_, ?_, ?_, ?_, ?_⟩, hAB, hAA, hc, o1, hk, o2, hs⟩, ((h.more hP).keep hb).keep ((Below.refl _ _).alloc (Nat.le_refl _) _)⟩ <;> simp
/-- all but the whitespace -/
def TX (g n : Nat) (K L : Nat → Int) (T : Nat → ByteArray) (w : World) : Prop :=
  ∀ j, j < n → w.cell? ⟨g, j * 7 + 5, none⟩ = some (.int .u8 (K j))
theorem TB.anyp {B g n p : Nat} {K S L : Nat → Int} {T : Nat → ByteArray} {w0 w : World} (h : TB B g n p K S L T w0 w) : TX g n K L T w := fun j hj => (h.1 j hj).2.2.2.2.2.1
theorem TB.bsz {B g n p : Nat} {K S L : Nat → Int} {T : Nat → ByteArray} {w0 w : World} (h : TB B g n p K S L T w0 w) : B ≤ w.heap.size := Nat.le_trans h.2.2.2.1 (Nat.le_of_lt h.2.2.2.2.1)
def Nope (w : World) (e : Ending) (w' : World) : Prop := ∃ l, e = .returned (.tuple #[.string ⟨#[]⟩, .agg #[.int .i32 l], .bool false]) ∧ Below w.heap.size w w'
theorem isi_not {g n p k c : Nat} {K L : Nat → Int} {T : Nat → ByteArray} {w : World} (h : TX g n K L T w) {o : Nat} (ho : o = p * 7) (hk : k = 1 ∨ k = 3) (hp : p + k ≤ n) (hne : ¬ (k = 1 ∧ K p = 29)) : Calls Try.prog 16 #[.slice (some ⟨g, o, none⟩) k c] w (Nope w) := by
  subst ho
  rcases hk with rfl | rfl
  · have hk2 : ¬ K p = 29 := fun h => hne ⟨rfl, h⟩
    have c0 := h p (by omega)
    exact (isi_kind g (p * 7) c (K p) w c0 (by simpa using hk2)).mono fun e w' ⟨⟨l, he⟩, hb⟩ => ⟨l, he, hb⟩
  · exact (isi_no _ 3 c w (by decide)).mono fun e w' ⟨⟨l, he⟩, hb⟩ => ⟨l, he, hb⟩
section
variable {B g n : Nat} {K S L : Nat → Int} {T : Nat → ByteArray} {w0 w : World}
set_option maxRecDepth 100000 in
set_option maxHeartbeats 4000000 in
theorem par_any (A : Option Addr) (hn : (n : Int) ≤ 16384) (hA : 0 < n → A = some ⟨g, 0, none⟩) (h : TB B g n 0 K S L T w0 w) :
    Calls Try.prog 12 #[.slice A n n] w (ParP B g n K S L T w0) := by
  have H := Lib.hid h
  have HA := Lib.hid hA
  clear h hA
  go_enter Try.func12, Try.ntmps12
  go_wp2_with fail
  refine (val_any (p := 0) (m := n) A (by omega) hn (fun h => HA.out h) H.out).mono ?_
  rintro e w1 ⟨k1, A1, h1, h2, rfl, h4, h5, -⟩
  rw [Nat.zero_add] at h4 h5
  have HT1 := Lib.hid h5
  have HA1 := Lib.hid h4
  clear H h4 h5
  rcases h2 with rfl | h2
  · go_wp2
    go_ret2
    exact .inl ⟨rfl, HT1.out.2.2.2.2.2⟩
  have p1 : (0 : Int) < k1 := by omega
  have n1 : 0 < k1 := by omega
  obtain rfl := HA.out (by omega)
  clear HA
  go_wp2_with fail
  refine (sca_any (p := k1) (m := n - k1) A1 (by omega) hn HA1.out HT1.out).mono ?_
  rintro e w2 ⟨c1, A2, g1, g2, g3, rfl, g4, g5, nq, rfl⟩
  have HT2 := Lib.hid (HT1.out.drewN nq)
  have HA2 := Lib.hid g4
  have HO1 := Lib.hid g5
  clear HT1 HA1 g4 g5
  by_cases z1 : c1 = 0
  · subst z1
    go_wp2
    go_ret2
    exact .inl ⟨rfl, HT2.out.2.2.2.2.2⟩
  have t1 : (c1 != 0) = true := by simpa using z1
  have hw1 : 1 ≤ widthN c1 := by unfold widthN; split <;> (try split) <;> omega
  generalize hWd : widthN c1 = W1 at *
  have HW1 := Lib.hid hWd
  clear hWd z1
  go_wp2_with fail
  refine (val_any (p := k1 + W1) (m := n - k1 - W1) A2 (by omega) hn HA2.out (HT2.out.more (by omega))).mono ?_
  rintro e w3 ⟨k2, A3, h1', h2', rfl, h4, h5, -⟩
  have HT3 := Lib.hid h5
  have HA3 := Lib.hid h4
  clear HT2 h4 h5
  rcases h2' with rfl | h2'
  · go_wp2
    go_ret2
    exact .inl ⟨rfl, HT3.out.2.2.2.2.2⟩
  have p2 : (0 : Int) < k2 := by omega
  have n2 : 0 < k2 := by omega
  obtain rfl := HA2.out (by omega)
  clear HA2
  by_cases hend : n - k1 - W1 - k2 = 0
  · -- name first, or name last
    have HE := Lib.hid (show n = k1 + W1 + k2 by omega)
    rw [hend] at *
    clear hend h1 h1' g3
    by_cases hid1 : k1 = 1 ∧ K 0 = 29
    · obtain ⟨rfl, hk0⟩ := hid1
      have HK0 := Lib.hid hk0
      obtain ⟨-, r1, r2, -, -, r5, -⟩ := HT3.out.1 0 (by have := HE.out; omega)
      rw [hk0] at r5
      have G := Lib.hid (And.intro g1 g2)
      clear hk0 g1 g2
      go_wp2_with fail
      refine (isi_yes g 0 n (L 0) (T 0) _ r5 r1 r2).mono ?_
      rintro e w4 ⟨rfl, hb⟩
      have HB4 := Lib.hid hb
      clear hb r5 r1 r2 t1
      go_wp2
      go_ret2
      have hE := HE.out
      have hW := HW1.out
      have e0 : widthN 0 = 0 := rfl
      refine par_good HT3.out (by omega) (HB4.out.alloc HB4.out.size _) (by simp) (b := 0) (a := k2) (cb := 0) (ca := c1) rfl rfl (fun h => by omega) (fun _ => ?_) ⟨by omega, by omega, G.out.1, G.out.2⟩ (.inl rfl) HK0.out HO1.out (by omega)
      congr 2
      omega
    · have HN := Lib.hid hid1
      clear hid1
      go_wp2_with fail
      refine (isi_not (p := 0) HT3.out.anyp rfl h2 (by have := HE.out; omega) HN.out).mono ?_
      rintro e w4 ⟨l, rfl, hb⟩
      have HB4 := Lib.hid hb
      have HT4 := Lib.hid (HT3.out.keep hb)
      clear hb
      by_cases hid2 : k2 = 1 ∧ K (k1 + W1) = 29
      · obtain ⟨rfl, hk0⟩ := hid2
        have HK0 := Lib.hid hk0
        obtain ⟨-, r1, r2, -, -, r5, -⟩ := (HT4.out.keep ((Below.refl _ _).alloc (Nat.le_refl _) (.cells #[.int .i32 l] 32))).1 (k1 + W1) (by have := HE.out; omega)
        rw [hk0] at r5
        have G := Lib.hid (And.intro g1 g2)
        clear hk0 g1 g2
        go_wp2_with fail
        with_reducible refine (isi_yes g ((k1 + W1) * 7) (n - k1 - W1) (L (k1 + W1)) (T (k1 + W1)) _ r5 r1 r2).mono ?_
        rintro e w5 ⟨rfl, hb⟩
        have HB5 := Lib.hid ((HB4.out.alloc HB4.out.size _).trans (hb.mono (by have := HB4.out.size; simp; omega)))
        clear hb r5 r1 r2 t1 HB4
        go_wp2
        go_ret2
        have hE := HE.out
        have hW := HW1.out
        have e0 : widthN 0 = 0 := rfl
        have o1 := HO1.out
        have kk := HK0.out
        have ht := HT3.out
        rw [← hW] at kk ⊢
        refine par_good ht (by omega) (HB5.out.alloc HB5.out.size _) (by simp) (b := k1) (a := 0) (cb := c1) (ca := 0) rfl rfl (fun h => rfl) (fun h => absurd h (by omega)) ⟨G.out.1, G.out.2, by omega, by omega⟩ o1 kk (.inl rfl) (by omega)
      · have HN2 := Lib.hid hid2
        clear hid2
        go_wp2_with fail
        refine (isi_not (p := k1 + W1) ((HT4.out.keep ((Below.refl _ _).alloc (Nat.le_refl _) (.cells #[.int .i32 l] 32))).anyp) rfl h2' (by have := HE.out; omega) HN2.out).mono ?_
        rintro e w5 ⟨l', rfl, hb⟩
        have HT5 := Lib.hid ((HT4.out.keep ((Below.refl _ _).alloc (Nat.le_refl _) (.cells #[.int .i32 l] 32))).keep hb)
        clear hb
        go_wp2
        go_ret2
        exact .inl ⟨rfl, HT5.out.2.2.2.2.2.alloc HT5.out.bsz _⟩
  · have HE := Lib.hid hend
    have HX := Lib.hid (show 0 < n - k1 - W1 - k2 by omega)
    have y1 : (((n - k1 - W1 - k2 : Nat) : Int) == 0) = false := by simp; omega
    clear h1
    by_cases hid2 : k2 = 1 ∧ K (k1 + W1) = 29
    case neg =>
      have HN2 := Lib.hid hid2
      clear hid2
      go_wp2_with fail
      refine (isi_not (p := k1 + W1) HT3.out.anyp rfl h2' (by omega) HN2.out).mono ?_
      rintro e w5 ⟨l', rfl, hb⟩
      have HT5 := Lib.hid (HT3.out.keep hb)
      clear hb
      go_wp2
      go_ret2
      exact .inl ⟨rfl, HT5.out.2.2.2.2.2.alloc HT5.out.bsz _⟩
    obtain ⟨rfl, hk0⟩ := hid2
    have HK0 := Lib.hid hk0
    obtain ⟨-, r1, r2, -, -, r5, -⟩ := HT3.out.1 (k1 + W1) (by omega)
    rw [hk0] at r5
    have G := Lib.hid (And.intro g1 g2)
    have S1 := Lib.hid (show k1 + W1 + 1 ≤ n by omega)
    clear hk0 g1 g2 hend h1' g3 h2'
    go_wp2_with fail
    with_reducible refine (isi_yes g ((k1 + W1) * 7) (n - k1 - W1) (L (k1 + W1)) (T (k1 + W1)) _ r5 r1 r2).mono ?_
    rintro e w4 ⟨rfl, hb⟩
    have HT4 := Lib.hid ((HT3.out.keep hb).keep ((Below.refl _ _).alloc (Nat.le_refl _) (.cells #[.int .i32 (L (k1 + W1))] 32)))
    have hg := (HT3.out.keep hb).2.2.2.2.1
    have HG := Lib.hid (show w4.heap.size ≠ g by omega)
    clear hb r5 r1 r2 HT3 hg
    go_wp2_with fail
    refine (sca_any (p := k1 + W1 + 1) (m := n - k1 - W1 - 1) A3 (by have := HX.out; omega) hn HA3.out HT4.out).mono ?_
    rintro e w5 ⟨c2, A4, g1, g2, g3, rfl, g4, g5, nq2, rfl⟩
    have HT5 := Lib.hid (HT4.out.drewN nq2)
    have HA4 := Lib.hid g4
    have HO2 := Lib.hid g5
    clear HT4 HA3 g4 g5
    by_cases z2 : c2 = 0
    · subst z2
      go_wp2
      go_ret2
      exact .inl ⟨rfl, HT5.out.2.2.2.2.2⟩
    have t2 : (c2 != 0) = true := by simpa using z2
    have hw2 : 1 ≤ widthN c2 := by unfold widthN; split <;> (try split) <;> omega
    generalize hWd2 : widthN c2 = W2 at *
    have HW2 := Lib.hid hWd2
    have G2 := Lib.hid (And.intro g1 g2)
    have G3 := Lib.hid g3
    clear hWd2 z2 g1 g2 g3 y1
    go_wp2_with fail
    refine (dir_any c1 _ G.out.1 G.out.2).mono ?_
    rintro e w6 ⟨rfl, rfl⟩
    go_wp2_with fail
    refine (dir_any c2 _ G2.out.1 G2.out.2).mono ?_
    rintro e w6 ⟨rfl, rfl⟩
    have hd1 : dirI c1 = -1 ∨ dirI c1 = 0 ∨ dirI c1 = 1 := by unfold dirI; split <;> (try split) <;> simp
    have hd2 : dirI c2 = -1 ∨ dirI c2 = 0 ∨ dirI c2 = 1 := by unfold dirI; split <;> (try split) <;> simp
    generalize dirI c1 = f1 at *
    generalize dirI c2 = f2 at *
    rcases hd1 with rfl | rfl | rfl <;> rcases hd2 with rfl | rfl | rfl
    all_goals first
      | (go_wp2; go_ret2; exact .inl ⟨rfl, HT5.out.2.2.2.2.2⟩)
      | skip
    all_goals
      go_wp2_with fail
      refine (val_any (p := k1 + W1 + 1 + W2) (m := n - k1 - W1 - 1 - W2) A4 (by have := G3.out; have := HX.out; omega) hn HA4.out (HT5.out.more (by omega))).mono ?_
      rintro e w7 ⟨k3, A5, h1', h2', rfl, h4, h5, h6⟩
      have HT7 := Lib.hid h5
      have hz := h6 w4.heap.size 0 HG.out
      clear HT5 h4 h5 h6
      have hz0 : ((w4.alloc (.cells #[.int .i32 (L (k1 + W1))] 32)).drewN nq2).cell? ⟨w4.heap.size, 0, none⟩ = some (.int .i32 (L (k1 + W1))) := by
        show (w4.alloc (.cells #[.int .i32 (L (k1 + W1))] 32)).cell? ⟨w4.heap.size, 0, none⟩ = _
        simp
      rw [hz0] at hz
      clear hz0
      rcases h2' with rfl | h2'
      · go_wp2
        go_ret2
        exact .inl ⟨rfl, HT7.out.2.2.2.2.2⟩
      have p3 : (0 : Int) < k3 := by omega
      by_cases hend3 : n - k1 - W1 - 1 - W2 - k3 = 0
      · have HE3 := Lib.hid (show n = k1 + W1 + 1 + W2 + k3 by have := G3.out; have := HX.out; omega)
        rw [hend3]
        clear hend3 h1' h2'
        obtain rfl := HA4.out (by have := HE3.out; omega)
        go_wp2
        go_ret2
        have hE := HE3.out
        have hW := HW1.out
        have hW2 := HW2.out
        have o1 := HO1.out
        have o2 := HO2.out
        have kk := HK0.out
        have ht := HT7.out
        subst hW hW2
        exact par_good ht (by omega) (Below.refl _ _) rfl (b := k1) (a := k3) (cb := c1) (ca := c2) rfl rfl (fun h => rfl) (fun h => rfl) ⟨G.out.1, G.out.2, G2.out.1, G2.out.2⟩ o1 kk o2 (by omega)
      · have y3 : (((n - k1 - W1 - 1 - W2 - k3 : Nat) : Int) == 0) = false := by simp; omega
        clear hend3 h1' h2'
        go_wp2
        go_ret2
        exact .inl ⟨rfl, HT7.out.2.2.2.2.2⟩
end
end Go.Proofs.Ytoaanhipdjjeiaa.Scan
