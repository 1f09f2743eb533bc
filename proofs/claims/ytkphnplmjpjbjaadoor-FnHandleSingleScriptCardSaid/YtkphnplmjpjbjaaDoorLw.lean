/-
  strings.ToLower lowers into ASCII only from ASCII, U+0130 and U+212A.
-/
import Derived.Lib.MapLaws
import Derived.Lib.TrimAscii
import Derived.Lib.Case
namespace Go.Proofs.YtkphnplmjpjbjaaDoor.Sy
open Go.Lib
set_option linter.unusedVariables false
theorem lookup_some (T : Array CaseRow) (r : Int) : ∀ (f lo hi i : Nat), lookupIdx T r f lo hi = some i → i < hi ∧ ((T.getD i (0, 0, 0, 0, 0)).1 : Int) ≤ r ∧ r ≤ ((T.getD i (0, 0, 0, 0, 0)).2.1 : Int)
  | 0, _, _, _, h => by simp [lookupIdx] at h
  | f + 1, lo, hi, i, h => by
    unfold lookupIdx at h
    split at h
    · split at h
      · rename_i hlt hin
        cases h
        exact ⟨by omega, hin⟩
      · split at h
        · have := lookup_some T r f _ _ i h
          exact ⟨by omega, this.2⟩
        · exact lookup_some T r f _ _ i h
    · cases h
def rowHi (x : CaseRow) : Bool := decide (x.2.1 < 128) || (decide (x.1 = x.2.1) && (decide (x.1 = 304) || decide (x.1 = 8490))) || (decide (128 ≤ x.1) && (decide (x.2.2.2.1 > 1114111) || decide (128 ≤ (x.1 : Int) + x.2.2.2.1)))
set_option maxRecDepth 100000 in
theorem rowsHi : caseT.all rowHi = true := by decide
theorem low_hi (r : Int) (h : 128 ≤ r) (h1 : r ≠ 304) (h2 : r ≠ 8490) : 128 ≤ toLowerU r := by
  unfold toLowerU
  rw [if_neg (by omega)]
  unfold toR lookupGo
  cases hi : lookupIdx caseA r (caseA.size + 1) 0 caseA.size with
  | none => exact h
  | some i =>
    obtain ⟨hil, hlo, hhi⟩ := lookup_some caseA r _ _ _ i hi
    have hm : caseA.getD i (0, 0, 0, 0, 0) ∈ caseT := by
      unfold caseA at hil ⊢
      simp only [List.size_toArray] at hil
      simp [Array.getD, hil]
    have hx := List.all_eq_true.1 rowsHi _ hm
    rw [Option.map_some]
    generalize caseA.getD i (0, 0, 0, 0, 0) = x at hlo hhi hx
    show 128 ≤ convertR 1 r x
    simp only [rowHi, Bool.or_eq_true, Bool.and_eq_true, decide_eq_true_eq] at hx
    have hd : x.delta 1 = x.2.2.2.1 := rfl
    unfold convertR
    rw [hd]
    split <;> omega
set_option maxRecDepth 100000 in
theorem low_304 : toLowerU 304 = 105 := by decide
set_option maxRecDepth 100000 in
theorem low_8490 : toLowerU 8490 = 107 := by decide
/-- the first byte of a rune's encoding -/
theorem enc_hi (r : Int) (h : 128 ≤ r) : ∃ b t, encodeRune r = b :: t ∧ 128 ≤ b.toNat := by
  unfold encodeRune encodeRuneZ
  rw [if_neg (by omega)]
  have k : ∀ z : Int, 128 ≤ z → z < 256 → 128 ≤ z.toNat.toUInt8.toNat := fun z h0 h1 => by
    have : z.toNat.toUInt8.toNat = z.toNat % 256 := by simp
    omega
  split
  · exact ⟨_, _, rfl, k _ (by omega) (by omega)⟩
  · split
    · exact ⟨_, _, rfl, k _ (by omega) (by omega)⟩
    · split
      · exact ⟨_, _, rfl, k _ (by omega) (by omega)⟩
      · exact ⟨_, _, rfl, by decide⟩
/-- a first byte from 128 on decodes to no ASCII rune -/
theorem dec_hi (b : UInt8) (t : List UInt8) (h : 128 ≤ b.toNat) : 128 ≤ (decodeL (b :: t)).1 := by
  have e : (b :: t).getD 0 0 = b := rfl
  rw [decodeL_N, e]
  rcases decodeN_shape (b :: t).length b.toNat ((b :: t).getD 1 0).toNat ((b :: t).getD 2 0).toNat ((b :: t).getD 3 0).toNat with ⟨c, e⟩ | ⟨c1, c2, c3, cv, e⟩ | ⟨c1, c2, c3, c4, cv, cs, e⟩ | ⟨c1, c2, c3, c4, c5, cv, cw, e⟩ | e
  · omega
  · rw [e]; exact cv
  · rw [e]; show 128 ≤ _; dsimp only; omega
  · rw [e]; show 128 ≤ _; dsimp only; omega
  · rw [e]; decide
set_option maxRecDepth 100000 in
theorem lower_byte2 : ∀ i : Fin 128, encodeRune (toLowerU (i.val : Int)) = [lowerB (UInt8.ofNat i.val)] := by decide
theorem lo_ascii (b : UInt8) (t : List UInt8) (h : b.toNat < 128) : toLowerD (b :: t) = lowerB b :: toLowerD t := by
  unfold toLowerD
  rw [mapD_step toLowerU (b :: t) (by simp), decodeL_ascii b t h]
  dsimp only
  have h0 : 0 ≤ toLowerU (b.toNat : Int) := by
    unfold toLowerU
    rw [if_pos (by omega)]
    split <;> omega
  rw [if_pos h0, lower_byte2 ⟨b.toNat, h⟩, List.drop_succ_cons, List.drop_zero]
  simp
/-- a first byte from 128 on: one of the two runes, or a byte from 128 on comes out -/
theorem lo_hi (b : UInt8) (t : List UInt8) (h : 128 ≤ b.toNat) : (∃ t', b :: t = 196 :: 176 :: t' ∧ toLowerD (b :: t) = 105 :: toLowerD t') ∨ (∃ t', b :: t = 226 :: 132 :: 170 :: t' ∧ toLowerD (b :: t) = 107 :: toLowerD t') ∨
    ((∃ x ∈ toLowerD (b :: t), 128 ≤ x.toNat) ∧ (∀ t', b :: t ≠ 196 :: 176 :: t') ∧ ∀ t', b :: t ≠ 226 :: 132 :: 170 :: t') := by
  have hr := dec_hi b t h
  have hs := mapD_step toLowerU (b :: t) (by simp)
  have hed := encode_decode (b :: t) (by simp)
  by_cases e1 : (decodeL (b :: t)).1 = 304
  · left
    rw [e1] at hed hs
    have := hed (by omega)
    rw [show encodeRune ((304 : Nat) : Int) = [196, 176] by decide] at this
    have hw : (decodeL (b :: t)).2 = 2 := by
      have hl := congrArg List.length this
      have hle := decodeL_le (b :: t) (by simp)
      rw [List.length_take, Nat.min_eq_left hle] at hl
      exact hl.symm
    rw [hw] at this hs
    match t, this with
    | [], this => simp at this
    | c :: t', this =>
      simp only [List.take_succ_cons, List.take_zero, List.cons.injEq, and_true] at this
      refine ⟨t', by rw [← this.1, ← this.2], ?_⟩
      unfold toLowerD
      rw [hs, show ((304 : Nat) : Int) = 304 from rfl, low_304]
      rfl
  by_cases e2 : (decodeL (b :: t)).1 = 8490
  · right; left
    rw [e2] at hed hs
    have := hed (by omega)
    rw [show encodeRune ((8490 : Nat) : Int) = [226, 132, 170] by decide] at this
    have hw : (decodeL (b :: t)).2 = 3 := by
      have hl := congrArg List.length this
      have hle := decodeL_le (b :: t) (by simp)
      rw [List.length_take, Nat.min_eq_left hle] at hl
      exact hl.symm
    rw [hw] at this hs
    match t, this with
    | [], this => simp at this
    | [_], this => simp at this
    | c :: d :: t', this =>
      simp only [List.take_succ_cons, List.take_zero, List.cons.injEq, and_true] at this
      refine ⟨t', by rw [← this.1, ← this.2.1, ← this.2.2], ?_⟩
      unfold toLowerD
      rw [hs, show ((8490 : Nat) : Int) = 8490 from rfl, low_8490]
      rfl
  right; right
  have hl := low_hi ((decodeL (b :: t)).1 : Int) (by omega) (by omega) (by omega)
  obtain ⟨x, u, hx, hx2⟩ := enc_hi _ hl
  refine ⟨⟨x, ?_, hx2⟩, ?_, ?_⟩
  · unfold toLowerD
    rw [hs, if_pos (by omega), hx]
    simp
  · intro t' e
    rw [e] at e1
    apply e1
    rw [decodeL_N]
    simp [decodeN]
  · intro t' e
    rw [e] at e2
    apply e2
    rw [decodeL_N]
    simp [decodeN]
/-- the law's folding of one step: what comes out, how many bytes it takes; none where the text is no ASCII word -/
def fol (l : List UInt8) : UInt8 × Nat := match l with
  | [] => (0, 0)
  | b :: t => if b.toNat < 128 then (lowerB b, 1) else if b = 196 ∧ t.head? = some 176 then (105, 2) else if b = 226 ∧ t.head? = some 132 ∧ (t.drop 1).head? = some 170 then (107, 3) else (b, 1)
def folD : Nat → List UInt8 → List UInt8
  | 0, _ => []
  | n + 1, l => match l with
    | [] => []
    | b :: t => (fol (b :: t)).1 :: folD n ((b :: t).drop (fol (b :: t)).2)
theorem fol_w (b : UInt8) (t : List UInt8) : 1 ≤ (fol (b :: t)).2 ∧ (fol (b :: t)).2 ≤ (b :: t).length := by
  unfold fol
  simp only
  split
  · simp
  · split
    · rename_i h
      match t, h.2 with
      | _ :: _, _ => simp
    · split
      · rename_i h
        match t, h.2 with
        | [_], h => simp at h
        | _ :: _ :: _, _ => simp
      · simp
theorem folD_fuel : ∀ (n m : Nat) (l : List UInt8), l.length ≤ n → l.length ≤ m → folD n l = folD m l
  | 0, m, [], _, _ => by cases m <;> rfl
  | 0, _, _ :: _, h, _ => by simp at h
  | n + 1, 0, [], _, _ => rfl
  | n + 1, 0, _ :: _, _, h => by simp at h
  | n + 1, m + 1, [], _, _ => rfl
  | n + 1, m + 1, b :: t, hn, hm => by
    have hw := fol_w b t
    rw [folD, folD, folD_fuel n m]
    · rw [List.length_drop]; omega
    · rw [List.length_drop]; omega
theorem head_tail {t : List UInt8} {a : UInt8} (h : t.head? = some a) : ∃ t', t = a :: t' := by
  cases t with
  | nil => simp at h
  | cons c t' => simp at h; exact ⟨t', by rw [h]⟩
/-- the low-cased text, where it is ASCII, is the folded text; and folds with a byte from 128 on are no low-cased ASCII -/
theorem low_fol : ∀ (n : Nat) (l : List UInt8), l.length ≤ n → ((∀ x ∈ toLowerD l, x.toNat < 128) → folD n l = toLowerD l) ∧ ((∀ x ∈ folD n l, x.toNat < 128) → folD n l = toLowerD l)
  | 0, [], _ => ⟨fun _ => rfl, fun _ => rfl⟩
  | 0, _ :: _, h => by simp at h
  | n + 1, [], _ => ⟨fun _ => rfl, fun _ => rfl⟩
  | n + 1, b :: t, h => by
    rw [List.length_cons] at h
    by_cases hb : b.toNat < 128
    · have ih := low_fol n t (by omega)
      have e : fol (b :: t) = (lowerB b, 1) := by simp [fol, hb]
      rw [folD, e, lo_ascii b t hb]
      simp only [List.drop_succ_cons, List.drop_zero, List.mem_cons, List.cons.injEq, true_and]
      exact ⟨fun hx => ih.1 fun x h => hx x (.inr h), fun hx => ih.2 fun x h => hx x (.inr h)⟩
    rcases lo_hi b t (by omega) with ⟨t', h1, h2⟩ | ⟨t', h1, h2⟩ | ⟨⟨x, hx, hx2⟩, h3, h4⟩
    · have e : fol (b :: t) = (105, 2) := by rw [h1]; rfl
      have hl : t'.length + 2 = (b :: t).length := by rw [h1]; rfl
      rw [List.length_cons] at hl
      have ih := low_fol n t' (by omega)
      rw [folD, e, h2, show (b :: t).drop 2 = t' by rw [h1]; rfl]
      simp only [List.mem_cons, List.cons.injEq, true_and]
      exact ⟨fun hx => ih.1 fun x h => hx x (.inr h), fun hx => ih.2 fun x h => hx x (.inr h)⟩
    · have e : fol (b :: t) = (107, 3) := by rw [h1]; rfl
      have hl : t'.length + 3 = (b :: t).length := by rw [h1]; rfl
      rw [List.length_cons] at hl
      have ih := low_fol n t' (by omega)
      rw [folD, e, h2, show (b :: t).drop 3 = t' by rw [h1]; rfl]
      simp only [List.mem_cons, List.cons.injEq, true_and]
      exact ⟨fun hx => ih.1 fun x h => hx x (.inr h), fun hx => ih.2 fun x h => hx x (.inr h)⟩
    · refine ⟨fun hall => absurd (hall x hx) (by omega), fun hall => ?_⟩
      have e : fol (b :: t) = (b, 1) := by
        unfold fol
        simp only
        rw [if_neg hb, if_neg, if_neg]
        · rintro ⟨h7, h5, h6⟩
          obtain ⟨t1, ht⟩ := head_tail h5
          rw [ht] at h6
          obtain ⟨t2, ht2⟩ := head_tail h6
          exact h4 t2 (by rw [h7, ht, show t1 = 170 :: t2 from ht2])
        · rintro ⟨h7, h5⟩
          obtain ⟨t1, ht⟩ := head_tail h5
          exact h3 t1 (by rw [h7, ht])
      have := hall b (by rw [folD, e]; simp)
      omega
end Go.Proofs.YtkphnplmjpjbjaaDoor.Sy
