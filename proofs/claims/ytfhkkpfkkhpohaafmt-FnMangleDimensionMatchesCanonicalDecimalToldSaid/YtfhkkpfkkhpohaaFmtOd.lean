/-
  mangleDimension at a plain nonzero decimal.
-/
import Derived.Test.YtfhkkpfkkhpohaaFmtOm
import Derived.Test.YtfhkkpfkkhpohaaFmtSw
import Derived.Test.YtfhkkpfkkhpohaaFmtCa
namespace Go.Proofs.YtfhkkpfkkhpohaaFmt.Sd
open Go.ChangeShapes Go.WideShapes Go.ChangeAt Go.RowKit Rg
open Go.Extern.Stop Go.Stop Go.Extern
set_option linter.unusedVariables false
theorem fNZ_zero (A : List UInt8) : ∀ k, (∀ j, j < k → atU A j = 48) → fNZ A k = -1
  | 0, _ => rfl
  | k + 1, h => by rw [fNZ, if_neg (fun c => c.2 (h k (by omega)))]; exact fNZ_zero A k (fun j hj => h j (by omega))
theorem fNZ_at (A : List UInt8) (f : Nat) (hf : atU A f ≠ 48) (h : ∀ j, j < f → atU A j = 48) : ∀ k, f < k → fNZ A k = f
  | 0, hk => absurd hk (by omega)
  | k + 1, hk => by
    rcases Nat.lt_or_ge f k with h1 | h1
    · rw [fNZ, fNZ_at A f hf h k h1, if_neg (fun c => by omega)]
    · obtain rfl : f = k := by omega
      rw [fNZ, fNZ_zero A f h, if_pos ⟨by omega, hf⟩]
theorem lNZ_at (A : List UInt8) (l : Nat) (hl : atU A l ≠ 48) : ∀ k, l < k → (∀ j, l < j → j < k → atU A j = 48) → lNZ A k = l
  | 0, hk, _ => absurd hk (by omega)
  | k + 1, hk, h => by
    rcases Nat.lt_or_ge l k with h1 | h1
    · rw [lNZ, if_neg (fun c => c (h k h1 (by omega)))]; exact lNZ_at A l hl k h1 (fun j h2 h3 => h j h2 (by omega))
    · obtain rfl : l = k := by omega
      rw [lNZ, if_pos hl]
theorem split_front : ∀ A : List UInt8, nzB A = true → ∃ f b X, A = zeros f ++ (b :: X) ∧ b ≠ 48
  | [], h => by simp [nzB] at h
  | b :: r, h => by
    by_cases hb : b = 48
    · have h2 : nzB r = true := by
        rw [nzB, List.any_cons, hb] at h
        simpa [nzB] using h
      obtain ⟨f, c, X, e, hc⟩ := split_front r h2
      exact ⟨f + 1, c, X, by rw [e, hb]; simp [zeros, List.replicate_succ], hc⟩
    · exact ⟨0, b, r, by simp [zeros], hb⟩
theorem split_back : ∀ (n : Nat) (R : List UInt8), R.length = n → (∃ b X, R = b :: X ∧ b ≠ 48) → ∃ Q b z, R = (Q ++ [b]) ++ zeros z ∧ b ≠ 48
  | 0, R, hn, ⟨b, X, e, _⟩ => by rw [e] at hn; simp at hn
  | n + 1, R, hn, ⟨b, X, e, hb⟩ => by
    obtain ⟨Q, c, hq⟩ : ∃ Q c, R = Q ++ [c] := by
      refine ⟨R.dropLast, R.getLast (by rw [e]; simp), (List.dropLast_concat_getLast _).symm⟩
    by_cases hc : c = 48
    · have hQ : ∃ b X, Q = b :: X ∧ b ≠ 48 := by
        cases Q with
        | nil => rw [e] at hq; simp at hq; exact absurd (hq.1.trans hc) hb
        | cons d Q => rw [e] at hq; simp at hq; exact ⟨d, Q, rfl, by rw [← hq.1]; exact hb⟩
      have hl : Q.length = n := by rw [hq] at hn; simpa using hn
      obtain ⟨Q2, c2, z, e2, h2⟩ := split_back n Q hl hQ
      exact ⟨Q2, c2, z + 1, by rw [hq, e2, hc]; simp [zeros, List.replicate_succ'], h2⟩
    · exact ⟨Q, c, 0, by rw [hq]; simp [zeros], hc⟩
theorem shf_canA (A : List UInt8) (q : Int) (h : nzB A = true) : shf A q = can A (fNZ A A.length) (lNZ A A.length) q ∧ fNZ A A.length ≤ lNZ A A.length := by
  obtain ⟨f, b, X, e, hb⟩ := split_front A h
  obtain ⟨Q, c, z, e2, hc⟩ := split_back (b :: X).length (b :: X) rfl ⟨b, X, rfl, hb⟩
  obtain ⟨M, hM⟩ : ∃ M, M = Q ++ [c] := ⟨_, rfl⟩
  rw [← hM] at e2
  have hM1 : ∃ b X, M = b :: X ∧ b ≠ 48 := by
    cases M with
    | nil => simp at hM
    | cons d M => simp at e2; exact ⟨d, M, rfl, by rw [← e2.1]; exact hb⟩
  rw [e2] at e
  have hz : ∀ n, (zeros n).length = n := fun n => by simp [zeros]
  have hMl : 0 < M.length := by rw [hM]; simp
  have hA : A.length = f + (M.length + z) := by rw [e]; simp [hz]
  have g1 : ∀ j, j < f → atU A j = 48 := fun j hj => by
    rw [atU, e, List.getD_eq_getElem?_getD, List.getElem?_append_left (by rw [hz]; exact hj), zeros, List.getElem?_replicate, if_pos hj]; rfl
  have g2 : atU A f ≠ 48 := by
    obtain ⟨b, X, e3, h3⟩ := hM1
    have : A[f]? = some b := by
      rw [e, List.getElem?_append_right (by rw [hz]; exact Nat.le_refl _), hz, Nat.sub_self, e3]; rfl
    rw [atU, List.getD_eq_getElem?_getD, this]; exact h3
  have g3 : atU A (f + M.length - 1) ≠ 48 := by
    have hQ : M.length = Q.length + 1 := by rw [hM]; simp
    have : A[f + M.length - 1]? = some c := by
      rw [e, List.getElem?_append_right (by rw [hz]; omega), hz, List.getElem?_append_left (by omega), hM, List.getElem?_append_right (by simp)]
      rw [show f + (Q ++ [c]).length - 1 - f - Q.length = 0 by simp]; rfl
    rw [atU, List.getD_eq_getElem?_getD, this]; exact hc
  have g4 : ∀ j, f + M.length - 1 < j → j < A.length → atU A j = 48 := fun j h1 h2 => by
    rw [atU, e, List.getD_eq_getElem?_getD, List.getElem?_append_right (by rw [hz]; omega), hz, List.getElem?_append_right (by omega), zeros, List.getElem?_replicate, if_pos (by omega)]; rfl
  have hf := fNZ_at A f g2 g1 A.length (by omega)
  have hl := lNZ_at A (f + M.length - 1) g3 A.length (by omega) g4
  have hl2 : ((f + M.length - 1 : Nat) : Int) = f + M.length - 1 := by omega
  rw [hf, hl, hl2]
  refine ⟨?_, by omega⟩
  have := shf_can M f z q hM1 ⟨Q, c, hM, hc⟩
  rw [← e] at this
  exact this
theorem mU_sU {u : ByteArray} (h : mU u = true) : sU u = false := by
  unfold mU at h
  unfold sU
  apply decide_eq_false
  rintro (e | e | e) <;> rw [e] at h <;> revert h <;> decide
theorem can_len (A : List UInt8) (f l q : Int) : (can A f l q).length ≤ (q - f).toNat + ((l + 1 - q).toNat + 1) := by
  unfold can
  rw [List.length_append, seg_len]
  split
  · rw [List.length_cons, seg_len]; omega
  · rw [List.length_nil]; omega
theorem shf_len (A : List UInt8) (q : Int) (h : nzB A = true) (sg : List UInt8) (hs : sg.length ≤ 1) (hA : (A.length : Int) ≤ 1048576) (h1 : -3 ≤ q) (h2 : q ≤ 1048579) : ((sg ++ shf A q).length : Int) ≤ 10000000 := by
  have hc := can_len A (fNZ A A.length) (lNZ A A.length) q
  rw [← (shf_canA A q h).1] at hc
  have hf := fNZ_le A A.length
  have hl := lNZ_le A A.length
  rw [List.length_append]
  omega
/-- what mangleDimension answers -/
def MdP (A : List UInt8) (sg : List UInt8) (p : Int) (n : Nat) (u : ByteArray) (w : World) (e : Ending) (w' : World) : Prop :=
  ∃ (gv gu : ByteArray) (gok : Bool), e = .returned (.tuple #[.string gv, .string gu, .bool gok]) ∧ Below w.heap.size w w' ∧
    ((mU u = true ∧ (sg ++ shf A (p + -3)).length + 1 < n + 2 ∧ gv.data.toList = sg ++ shf A (p + -3) ∧ gu = ⟨#[115]⟩ ∧ gok = true) ∨
     (¬ (mU u = true ∧ (sg ++ shf A (p + -3)).length + 1 < n + 2) ∧ sU u = true ∧ (sg ++ shf A (p + 3)).length + 2 < n + 1 ∧ gv.data.toList = sg ++ shf A (p + 3) ∧ gu = ⟨#[109, 115]⟩ ∧ gok = true) ∨
     (¬ (mU u = true ∧ (sg ++ shf A (p + -3)).length + 1 < n + 2) ∧ ¬ (sU u = true ∧ (sg ++ shf A (p + 3)).length + 2 < n + 1) ∧ gv = ⟨#[]⟩ ∧ gu = ⟨#[]⟩ ∧ gok = false))
set_option maxRecDepth 100000 in
set_option maxHeartbeats 4000000 in
theorem md_any (F : Interp) (t u sg : ByteArray) (I Fr : List UInt8) (dot : Bool) (w : World) (hF : F.told.answers w.tape) (hT : FT w)
    (ht : t.data.toList = sg.data.toList ++ bodyL I Fr dot) (hsg : sg = ⟨#[]⟩ ∨ sg = ⟨#[45]⟩ ∨ sg = ⟨#[43]⟩) (hI : ∀ b ∈ I, isDg b = true) (hFr : ∀ b ∈ Fr, isDg b = true) (hd : dot = false → Fr = []) (hnz : nzB (I ++ Fr) = true) (hz : (t.size : Int) ≤ 1048576) (hu : (u.size : Int) ≤ 1048576) :
    Calls Tryf.prog 11 #[.string t, .string u] w (MdP (I ++ Fr) sg.data.toList I.length t.size u w) := by
  have hlen : (I ++ Fr).length ≤ t.size := by
    rw [← ba_len, ht]
    unfold bodyL
    cases dot with
    | false => rw [hd rfl]; simp
    | true => simp; omega
  have hIl : I.length ≤ (I ++ Fr).length := by simp
  have hsl : sg.data.toList.length ≤ 1 := by rcases hsg with h | h | h <;> rw [h] <;> decide
  have HBN := Lib.hid (shf_len (I ++ Fr) (I.length + -3) hnz sg.data.toList hsl (by omega) (by omega) (by omega))
  have HBP := Lib.hid (shf_len (I ++ Fr) (I.length + 3) hnz sg.data.toList hsl (by omega) (by omega) (by omega))
  clear hlen hIl hsl hnz
  have HF := Lib.hid hF
  have HT := Lib.hid hT
  have Ht := Lib.hid ht
  have HD := Lib.hid (And.intro hsg (And.intro hI (And.intro hFr hd)))
  clear hF hT ht hsg hI hFr hd
  go_enter Tryf.func11, Tryf.ntmps11
  go_wp2_with fail
  refine (ef_ms u w hu HT.out).mono ?_
  rintro e w1 ⟨rfl, hb1⟩
  have HT1 := Lib.hid (HT.out.keep hb1)
  have HF1 := Lib.hid (show F.told.answers w1.tape by rw [hb1.tape]; exact HF.out)
  have HB1 := Lib.hid hb1
  clear hb1 HT HF
  have HB := HB1.out.size
  cases hm : mU u with
  | true =>
    have HSU := Lib.hid (mU_sU hm)
    have HM := Lib.hid hm
    clear hm
    go_wp2_with fail
    refine (shift_any F t sg I Fr dot (-3) w1 HF1.out Ht.out HD.out.1 HD.out.2.1 HD.out.2.2.1 HD.out.2.2.2 (by omega) (by decide) (by decide)).mono ?_
    rintro e w2 ⟨r, rfl, hr, hb2⟩
    have HR := Lib.hid hr
    have HT2 := Lib.hid (HT1.out.keep hb2)
    have HB2 := Lib.hid (HB1.out.trans (hb2.mono HB))
    have hrl : r.size = (sg.data.toList ++ shf (I ++ Fr) (I.length + -3)).length := by rw [← ba_len, hr]
    have HRL := Lib.hid hrl
    have hr2 : (r.size : Int) ≤ 9223372036854775800 := by have := HBN.out; rw [hrl]; omega
    clear hr hb2 hrl HB1 HT1
    by_cases hlt : (r.size : Int) + 1 < (t.size : Int) + 2
    · go_wp2_with fail
      refine bodyPost_ret (v := .tuple #[.string r, .string ⟨#[115]⟩, .bool true]) (by simp [results, Tryf.results11, go_sem]) rfl ?_
      exact ⟨r, _, _, rfl, HB2.out, .inl ⟨HM.out, by rw [← HRL.out]; omega, HR.out, rfl, rfl⟩⟩
    · go_wp2_with fail
      refine (ef_s u w2 hu HT2.out).mono ?_
      rintro e w3 ⟨rfl, hb3⟩
      have HB3 := Lib.hid (HB2.out.trans (hb3.mono HB2.out.size))
      clear hb3
      rw [HSU.out]
      go_wp2_with fail
      refine bodyPost_ret (v := .tuple #[.string ⟨#[]⟩, .string ⟨#[]⟩, .bool false]) (by simp [results, Tryf.results11, go_sem]) rfl ?_
      exact ⟨_, _, _, rfl, HB3.out, .inr (.inr ⟨fun c => by have := c.2; rw [← HRL.out] at this; omega, fun c => by rw [HSU.out] at c; exact Bool.false_ne_true c.1, rfl, rfl, rfl⟩)⟩
  | false =>
    have HM := Lib.hid hm
    clear hm
    go_wp2_with fail
    refine (ef_s u w1 hu HT1.out).mono ?_
    rintro e w2 ⟨rfl, hb2⟩
    have HF2 := Lib.hid (show F.told.answers w2.tape by rw [hb2.tape]; exact HF1.out)
    have HB2 := Lib.hid (HB1.out.trans (hb2.mono HB))
    clear hb2 HB1 HT1 HF1
    cases hs : sU u with
    | true =>
      have HS := Lib.hid hs
      clear hs
      go_wp2_with fail
      refine (shift_any F t sg I Fr dot 3 w2 HF2.out Ht.out HD.out.1 HD.out.2.1 HD.out.2.2.1 HD.out.2.2.2 (by omega) (by decide) (by decide)).mono ?_
      rintro e w3 ⟨r, rfl, hr, hb3⟩
      have HR := Lib.hid hr
      have HB3 := Lib.hid (HB2.out.trans (hb3.mono HB2.out.size))
      have hrl : r.size = (sg.data.toList ++ shf (I ++ Fr) (I.length + 3)).length := by rw [← ba_len, hr]
      have HRL := Lib.hid hrl
      have hr2 : (r.size : Int) ≤ 9223372036854775800 := by have := HBP.out; rw [hrl]; omega
      clear hr hb3 hrl HB2
      by_cases hlt : (r.size : Int) + 2 < (t.size : Int) + 1
      · go_wp2_with fail
        refine bodyPost_ret (v := .tuple #[.string r, .string ⟨#[109, 115]⟩, .bool true]) (by simp [results, Tryf.results11, go_sem]) rfl ?_
        exact ⟨r, _, _, rfl, HB3.out, .inr (.inl ⟨fun c => by rw [HM.out] at c; exact Bool.false_ne_true c.1, HS.out, by rw [← HRL.out]; omega, HR.out, rfl, rfl⟩)⟩
      · go_wp2_with fail
        refine bodyPost_ret (v := .tuple #[.string ⟨#[]⟩, .string ⟨#[]⟩, .bool false]) (by simp [results, Tryf.results11, go_sem]) rfl ?_
        exact ⟨_, _, _, rfl, HB3.out, .inr (.inr ⟨fun c => by rw [HM.out] at c; exact Bool.false_ne_true c.1, fun c => by have := c.2; rw [← HRL.out] at this; omega, rfl, rfl, rfl⟩)⟩
    | false =>
      have HS := Lib.hid hs
      clear hs
      go_wp2_with fail
      refine bodyPost_ret (v := .tuple #[.string ⟨#[]⟩, .string ⟨#[]⟩, .bool false]) (by simp [results, Tryf.results11, go_sem]) rfl ?_
      exact ⟨_, _, _, rfl, HB2.out, .inr (.inr ⟨fun c => by rw [HM.out] at c; exact Bool.false_ne_true c.1, fun c => by rw [HS.out] at c; exact Bool.false_ne_true c.1, rfl, rfl, rfl⟩)⟩
end Go.Proofs.YtfhkkpfkkhpohaaFmt.Sd
