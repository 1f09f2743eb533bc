/-
  Rows of tokens; what a pass makes of tokens and symbols.
-/
import Derived.Test.YtkphnplmjpjbjaaDoorSf
namespace Go.Proofs.YtkphnplmjpjbjaaDoor.Sy
open Go.ChangeShapes Go.WideShapes Go.ChangeAt Go.RowKit Rg
set_option linter.unusedVariables false
/-- a token: text, kind, payload -/
abbrev TK := ByteArray × Int × Int
abbrev SY := List (ByteArray × Int)
def tk0 : TK := (⟨#[]⟩, 0, 0)
def tkR (x : TK) : List Value := [.pointer none, .string x.1, .int .i32 0, .int .u32 x.2.2, .int .u16 0, .int .u8 x.2.1, .int .u8 0]
def tkF (T : List TK) (i : Nat) : List Value := tkR (T.getD i tk0)
theorem tkF_len (T : List TK) (i : Nat) : (tkF T i).length = 7 := rfl
/-- block g is a row of tokens -/
def TB (w : World) (g : Nat) (T : List TK) : Prop := Bk w g 37 (rowg (tkF T) T.length).toArray
section
variable {w w' : World} {g i : Nat} {T : List TK}
theorem TB.cellAt (h : TB w g T) (hi : i < T.length) {j : Nat} {u : Value} (hj : (tkF T i)[j]? = some u) : w.cell? ⟨g, i * 7 + j, none⟩ = some u := by
  have hj7 : j < 7 := by have := (List.getElem?_eq_some_iff.1 hj).1; rw [tkF_len] at this; exact this
  exact Bk.cell h (i * 7 + j) (by rw [List.getElem?_toArray, rowg_at (tkF T) (s := 7) (tkF_len T) T.length i j hi hj7]; exact hj)
theorem TB.setK (h : TB w g T) (hi : i < T.length) (K : Int) : TB (w.setCell ⟨g, i * 7 + 5, none⟩ (.int .u8 K)) g (T.set i ((T.getD i tk0).1, K, (T.getD i tk0).2.2)) := by
  have hr := rowg_set (f := tkF T) (f' := tkF (T.set i ((T.getD i tk0).1, K, (T.getD i tk0).2.2))) (tkF_len T) (i := i) (j := 5) (u := .int .u8 K) (by
    unfold tkF
    rw [List.getD_eq_getElem?_getD (l := T.set _ _), List.getElem?_set_self hi]; rfl) (by omega) (fun k hk => by
    unfold tkF
    rw [List.getD_eq_getElem?_getD, List.getElem?_set_ne (fun e => hk e.symm), List.getD_eq_getElem?_getD]) T.length hi
  have h2 := Bk.set_ h (i * 7 + 5) (.int .u8 K)
  unfold TB
  rw [List.length_set, ← hr]
  simpa using h2
theorem TB.setP (h : TB w g T) (hi : i < T.length) (P : Int) : TB (w.setCell ⟨g, i * 7 + 3, none⟩ (.int .u32 P)) g (T.set i ((T.getD i tk0).1, (T.getD i tk0).2.1, P)) := by
  have hr := rowg_set (f := tkF T) (f' := tkF (T.set i ((T.getD i tk0).1, (T.getD i tk0).2.1, P))) (tkF_len T) (i := i) (j := 3) (u := .int .u32 P) (by
    unfold tkF
    rw [List.getD_eq_getElem?_getD (l := T.set _ _), List.getElem?_set_self hi]; rfl) (by omega) (fun k hk => by
    unfold tkF
    rw [List.getD_eq_getElem?_getD, List.getElem?_set_ne (fun e => hk e.symm), List.getD_eq_getElem?_getD]) T.length hi
  have h2 := Bk.set_ h (i * 7 + 3) (.int .u32 P)
  unfold TB
  rw [List.length_set, ← hr]
  simpa using h2
theorem TB.setT (h : TB w g T) (hi : i < T.length) (s : ByteArray) : TB (w.setCell ⟨g, i * 7 + 1, none⟩ (.string s)) g (T.set i (s, (T.getD i tk0).2.1, (T.getD i tk0).2.2)) := by
  have hr := rowg_set (f := tkF T) (f' := tkF (T.set i (s, (T.getD i tk0).2.1, (T.getD i tk0).2.2))) (tkF_len T) (i := i) (j := 1) (u := .string s) (by
    unfold tkF
    rw [List.getD_eq_getElem?_getD (l := T.set _ _), List.getElem?_set_self hi]; rfl) (by omega) (fun k hk => by
    unfold tkF
    rw [List.getD_eq_getElem?_getD, List.getElem?_set_ne (fun e => hk e.symm), List.getD_eq_getElem?_getD]) T.length hi
  have h2 := Bk.set_ h (i * 7 + 1) (.string s)
  unfold TB
  rw [List.length_set, ← hr]
  simpa using h2
theorem TB.setP' (h : TB w g T) (hi : i < T.length) {s : ByteArray} {K P0 : Int} (he : T.getD i tk0 = (s, K, P0)) (P : Int) : TB (w.setCell ⟨g, i * 7 + 3, none⟩ (.int .u32 P)) g (T.set i (s, K, P)) := by
  have := h.setP hi P
  rw [he] at this
  exact this
end
/-- one token handled: c says which tokens become symbols -/
def stp (c : Nat → TK → Bool) (i : Nat) (z : List TK × SY) : List TK × SY :=
  if c i (z.1.getD i tk0) then (z.1.set i ((z.1.getD i tk0).1, 39, (plS (z.1.getD i tk0).1 z.2 : Int)), addS (z.1.getD i tk0).1 z.2) else z
def stN (c : Nat → TK → Bool) (z : List TK × SY) : Nat → List TK × SY
  | 0 => z
  | i + 1 => stp c i (stN c z i)
/-- uses and their number are at most n -/
def SBd (n : Nat) (S : SY) : Prop := S.length ≤ n ∧ ∀ x ∈ S, 0 ≤ x.2 ∧ x.2 ≤ n
theorem SBd.mono {n m : Nat} {S : SY} (h : SBd n S) (hm : n ≤ m) : SBd m S := ⟨Nat.le_trans h.1 hm, fun x hx => ⟨(h.2 x hx).1, by have := (h.2 x hx).2; omega⟩⟩
theorem SBd.nil (n : Nat) : SBd n [] := ⟨Nat.zero_le _, fun x hx => by cases hx⟩
theorem SBd.add {n : Nat} {S : SY} (h : SBd n S) (s : ByteArray) : SBd (n + 1) (addS s S) := by
  unfold addS
  cases hx : ixF s (S.map (·.1)) with
  | none =>
    refine ⟨by simp; exact h.1, fun x hx => ?_⟩
    rcases List.mem_append.1 hx with h1 | h1
    · have := h.2 x h1
      exact ⟨this.1, by omega⟩
    · rw [List.mem_singleton] at h1
      rw [h1]
      exact ⟨by omega, by simp only; omega⟩
  | some j =>
    have hj := (ixF_lt hx).1
    rw [List.length_map] at hj
    refine ⟨by simp; exact Nat.le_trans h.1 (by omega), fun x hx => ?_⟩
    rcases List.mem_or_eq_of_mem_set hx with h1 | h1
    · have := h.2 x h1
      exact ⟨this.1, by omega⟩
    · have hm : S.getD j (⟨#[]⟩, 0) ∈ S := by
        rw [List.getD_eq_getElem?_getD, List.getElem?_eq_getElem hj]
        exact List.getElem_mem hj
      have := h.2 _ hm
      rw [h1]
      exact ⟨by show 0 ≤ _ + 1; omega, by show _ + 1 ≤ _; omega⟩
theorem plS_lt {s : ByteArray} {S : SY} : plS s S < (addS s S).length := by
  unfold plS addS
  cases hx : ixF s (S.map (·.1)) with
  | none => simp
  | some j => simpa using (ixF_lt hx).1
section
variable {c : Nat → TK → Bool} {z : List TK × SY} {n : Nat}
theorem stp_len (i : Nat) : (stp c i z).1.length = z.1.length := by
  unfold stp
  split
  · simp
  · rfl
theorem stN_len : ∀ i, (stN c z i).1.length = z.1.length
  | 0 => rfl
  | i + 1 => by rw [stN, stp_len, stN_len i]
theorem stp_bd (h : SBd n z.2) (i : Nat) : SBd (n + 1) (stp c i z).2 := by
  unfold stp
  split
  · exact h.add _
  · exact h.mono (by omega)
theorem stN_bd (h : SBd n z.2) : ∀ i, SBd (n + i) (stN c z i).2
  | 0 => h
  | i + 1 => stp_bd (stN_bd h i) i
theorem getD_set_ne {α : Type} {l : List α} {i j : Nat} {a d : α} (h : i ≠ j) : (l.set i a).getD j d = l.getD j d := by
  rw [List.getD_eq_getElem?_getD, List.getElem?_set_ne h, List.getD_eq_getElem?_getD]
theorem getD_set_eq {α : Type} {l : List α} {i : Nat} {a d : α} (h : i < l.length) : (l.set i a).getD i d = a := by
  rw [List.getD_eq_getElem?_getD, List.getElem?_set_self h]; rfl
theorem stp_far {i j : Nat} (h : i ≠ j) : (stp c i z).1.getD j tk0 = z.1.getD j tk0 := by
  unfold stp
  split
  · exact getD_set_ne h
  · rfl
/-- what is not yet handled stands -/
theorem stN_later : ∀ (i : Nat) {j : Nat}, i ≤ j → (stN c z i).1.getD j tk0 = z.1.getD j tk0
  | 0, _, _ => rfl
  | i + 1, j, h => by rw [stN, stp_far (by omega), stN_later i (by omega)]
/-- what is handled stands -/
theorem stN_stands {j : Nat} : ∀ (i : Nat), j < i → (stN c z i).1.getD j tk0 = (stN c z (j + 1)).1.getD j tk0
  | 0, h => absurd h (by omega)
  | i + 1, h => by
    by_cases e : j = i
    · subst e; rfl
    · rw [stN, stp_far (by omega), stN_stands i (by omega)]
theorem stN_at {i j : Nat} (h : j < i) (hj : j < z.1.length) : (stN c z i).1.getD j tk0 = if c j (z.1.getD j tk0) then ((z.1.getD j tk0).1, 39, (plS (z.1.getD j tk0).1 (stN c z j).2 : Int)) else z.1.getD j tk0 := by
  rw [stN_stands i h, stN, stp, stN_later j (Nat.le_refl j)]
  split
  · exact getD_set_eq (by rw [stN_len]; exact hj)
  · exact stN_later j (Nat.le_refl j)
theorem stN_text (i j : Nat) (hj : j < z.1.length) : ((stN c z i).1.getD j tk0).1 = (z.1.getD j tk0).1 := by
  by_cases h : j < i
  · rw [stN_at h hj]
    split <;> rfl
  · rw [stN_later i (by omega)]
theorem stN_same : ∀ (n : Nat), n ≤ z.1.length → (∀ j, j < n → c j (z.1.getD j tk0) = false) → stN c z n = z
  | 0, _, _ => rfl
  | n + 1, hn, h => by
    rw [stN, stN_same n (by omega) (fun j hj => h j (by omega)), stp, h n (by omega)]
    rfl
theorem stp_congr {c' : Nat → TK → Bool} {i : Nat} (h : c i (z.1.getD i tk0) = c' i (z.1.getD i tk0)) : stp c i z = stp c' i z := by
  unfold stp
  rw [h]
theorem stp_not {i : Nat} (h : c i (z.1.getD i tk0) = false) : stp c i z = z := by
  unfold stp
  rw [h]
  rfl
theorem stp_do {i : Nat} (h : c i (z.1.getD i tk0) = true) : stp c i z = (z.1.set i ((z.1.getD i tk0).1, 39, (plS (z.1.getD i tk0).1 z.2 : Int)), addS (z.1.getD i tk0).1 z.2) := by
  unfold stp
  rw [h]
  rfl
end
/-- the names behind a call -/
theorem names_add (s : ByteArray) (S : SY) : (addS s S).map (·.1) = if (ixF s (S.map (·.1))).isSome then S.map (·.1) else S.map (·.1) ++ [s] := by
  unfold addS
  cases hx : ixF s (S.map (·.1)) with
  | none => simp
  | some j =>
    have hm := ixF_lt hx
    rw [if_pos (show (some j).isSome = true from rfl)]
    have hj : j < S.length := by simpa using hm.1
    simp only
    rw [List.map_set]
    apply List.ext_getElem?
    intro i
    by_cases hij : j = i
    · subst hij
      rw [List.getElem?_set_self (by simpa using hj), List.getElem?_map, List.getD_eq_getElem?_getD, List.getElem?_eq_getElem hj]; rfl
    · rw [List.getElem?_set_ne hij]
theorem ix_add (s : ByteArray) (S : SY) : ixF s ((addS s S).map (·.1)) = some (plS s S) := by
  rw [names_add]
  unfold plS
  cases hx : ixF s (S.map (·.1)) with
  | none => rw [if_neg (by simp), ixF_new hx]; simp
  | some j => rw [if_pos (show (some j).isSome = true from rfl), hx]; rfl
theorem pl_add (s : ByteArray) (S : SY) : plS s (addS s S) = plS s S := by
  rw [plS, ix_add]; rfl
theorem name_add (s : ByteArray) (S : SY) : ((addS s S).getD (plS s S) (⟨#[]⟩, 0)).1 = s := by
  have h := (ixF_lt (ix_add s S)).2
  rw [List.getElem?_map] at h
  obtain ⟨x, hx, rfl⟩ := Option.map_eq_some_iff.1 h
  rw [List.getD_eq_getElem?_getD, hx]; rfl
theorem len_add2 (s : ByteArray) (S : SY) : (addS s (addS s S)).length = (addS s S).length := by
  have h := names_add s (addS s S)
  rw [ix_add, if_pos (show (some (plS s S)).isSome = true from rfl)] at h
  simpa using congrArg List.length h
theorem len_add (s : ByteArray) (S : SY) : S.length ≤ (addS s S).length ∧ (addS s S).length ≤ S.length + 1 := by
  have h := congrArg List.length (names_add s S)
  rw [List.length_map] at h
  rw [h]
  split <;> simp
theorem nodup_len {α : Type} [DecidableEq α] : ∀ (l1 l2 : List α), l1.Nodup → (∀ x ∈ l1, x ∈ l2) → l1.length ≤ l2.length
  | [], _, _, _ => Nat.zero_le _
  | a :: r, l2, hn, hs => by
    have hn2 := List.nodup_cons.1 hn
    have h := nodup_len r (l2.erase a) hn2.2 (fun x hx => (List.mem_erase_of_ne (fun e => hn2.1 (by rw [← e]; exact hx))).2 (hs x (List.mem_cons_of_mem _ hx)))
    have hm := hs a List.mem_cons_self
    have hl := List.length_erase_of_mem hm
    have : 0 < l2.length := List.length_pos_of_mem hm
    rw [List.length_cons]
    omega
theorem nodup_add {s : ByteArray} {S : SY} (h : (S.map (·.1)).Nodup) : ((addS s S).map (·.1)).Nodup := by
  rw [names_add]
  split
  · exact h
  · rename_i hs
    have hs := ixF_none.1 (by simpa using hs)
    rw [List.nodup_append]
    refine ⟨h, by simp, fun a ha b hb => ?_⟩
    rw [List.mem_singleton] at hb
    rintro rfl
    exact hs (hb ▸ ha)
theorem mem_add {s x : ByteArray} {S : SY} : x ∈ (addS s S).map (·.1) ↔ x ∈ S.map (·.1) ∨ x = s := by
  rw [names_add]
  split
  · rename_i hs
    obtain ⟨j, hj⟩ := Option.isSome_iff_exists.1 hs
    have hs := List.mem_of_getElem? (ixF_lt hj).2
    constructor
    · exact .inl
    · rintro (h | rfl)
      · exact h
      · exact hs
  · simp
section
variable {c : Nat → TK → Bool} {z : List TK × SY} {n : Nat}
theorem stN_nodup (h : (z.2.map (·.1)).Nodup) : ∀ i, ((stN c z i).2.map (·.1)).Nodup
  | 0 => h
  | i + 1 => by
    rw [stN]
    by_cases hc : c i ((stN c z i).1.getD i tk0) = true
    · rw [stp_do hc]; exact nodup_add (stN_nodup h i)
    · rw [stp_not (by simpa using hc)]; exact stN_nodup h i
theorem stN_mem (x : ByteArray) : ∀ i, x ∈ (stN c z i).2.map (·.1) ↔ x ∈ z.2.map (·.1) ∨ ∃ j, j < i ∧ c j (z.1.getD j tk0) = true ∧ (z.1.getD j tk0).1 = x
  | 0 => by simp [stN]
  | i + 1 => by
    have ih := stN_mem x i
    rw [stN]
    have hl := stN_later (c := c) (z := z) i (Nat.le_refl i)
    by_cases hc : c i (z.1.getD i tk0) = true
    · rw [stp_do (by rw [hl]; exact hc)]
      simp only
      rw [mem_add, ih, hl]
      constructor
      · rintro ((h | ⟨j, hj, h1, h2⟩) | h)
        · exact .inl h
        · exact .inr ⟨j, by omega, h1, h2⟩
        · exact .inr ⟨i, by omega, hc, h.symm⟩
      · rintro (h | ⟨j, hj, h1, h2⟩)
        · exact .inl (.inl h)
        · by_cases e : j = i
          · subst e; exact .inr h2.symm
          · exact .inl (.inr ⟨j, by omega, h1, h2⟩)
    · rw [stp_not (by rw [hl]; simpa using hc), ih]
      constructor
      · rintro (h | ⟨j, hj, h1, h2⟩)
        · exact .inl h
        · exact .inr ⟨j, by omega, h1, h2⟩
      · rintro (h | ⟨j, hj, h1, h2⟩)
        · exact .inl h
        · by_cases e : j = i
          · subst e; exact absurd h1 hc
          · exact .inr ⟨j, by omega, h1, h2⟩
theorem stN_grows : ∀ i, z.2.length ≤ (stN c z i).2.length
  | 0 => Nat.le_refl _
  | i + 1 => by
    have ih := stN_grows i
    rw [stN]
    by_cases hc : c i ((stN c z i).1.getD i tk0) = true
    · rw [stp_do hc]; exact Nat.le_trans ih (len_add _ _).1
    · rw [stp_not (by simpa using hc)]; exact ih
/-- fewer conversions make fewer symbols -/
theorem stN_fewer {c' : Nat → TK → Bool} {T : List TK} {n : Nat} (h : ∀ j, j < n → c j (T.getD j tk0) = true → c' j (T.getD j tk0) = true) : (stN c (T, []) n).2.length ≤ (stN c' (T, []) n).2.length := by
  have := nodup_len ((stN c (T, []) n).2.map (·.1)) ((stN c' (T, []) n).2.map (·.1)) (stN_nodup (by simp) n) (fun x hx => by
    rw [stN_mem] at hx ⊢
    rcases hx with hx | ⟨j, hj, h1, h2⟩
    · simp at hx
    · exact .inr ⟨j, hj, h j hj h1, h2⟩)
  simpa using this
/-- a row of tokens under construction -/
def bldN (f : Nat → TK) (n : Nat) : Nat → List TK
  | 0 => List.replicate n tk0
  | k + 1 => (bldN f n k).set k (f k)
theorem bldN_len (f : Nat → TK) (n : Nat) : ∀ k, (bldN f n k).length = n
  | 0 => by simp [bldN]
  | k + 1 => by rw [bldN, List.length_set, bldN_len f n k]
theorem bldN_at (f : Nat → TK) (n : Nat) : ∀ k j, k ≤ n → (bldN f n k).getD j tk0 = if j < k then f j else tk0
  | 0, j, _ => by
    rw [bldN, List.getD_eq_getElem?_getD, List.getElem?_replicate]
    split <;> simp
  | k + 1, j, h => by
    rw [bldN]
    by_cases e : k = j
    · subst e
      rw [getD_set_eq (by rw [bldN_len]; omega), if_pos (by omega)]
    · rw [getD_set_ne e, bldN_at f n k j (by omega)]
      by_cases hj : j < k
      · rw [if_pos hj, if_pos (by omega)]
      · rw [if_neg hj, if_neg (by omega)]
end
end Go.Proofs.YtkphnplmjpjbjaaDoor.Sy
