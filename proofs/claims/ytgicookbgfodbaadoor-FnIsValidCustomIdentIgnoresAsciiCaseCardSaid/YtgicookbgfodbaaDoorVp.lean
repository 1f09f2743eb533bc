/-
  Swapping the case of ASCII letters keeps what isValidCustomIdent asks.
-/
import Derived.Test.YtgicookbgfodbaaDoorVe
import Derived.Lib.MapLaws
import Derived.Lib.TrimAscii
import Derived.Lib.Case
namespace Go.Proofs.YtgicookbgfodbaaDoor.Sy
open Go.Lib
set_option linter.unusedVariables false
set_option linter.unusedSimpArgs false
def swB (b : UInt8) : UInt8 := if 65 ≤ b.toNat ∧ b.toNat ≤ 90 then b + 32 else if 97 ≤ b.toNat ∧ b.toNat ≤ 122 then b - 32 else b
theorem swB_up {b : UInt8} (h : 65 ≤ b.toNat ∧ b.toNat ≤ 90) : (swB b).toNat = b.toNat + 32 := by
  unfold swB
  rw [if_pos h, UInt8.toNat_add]
  show (b.toNat + 32) % 256 = _
  omega
theorem swB_lo {b : UInt8} (h : ¬ (65 ≤ b.toNat ∧ b.toNat ≤ 90)) (h2 : 97 ≤ b.toNat ∧ b.toNat ≤ 122) : (swB b).toNat = b.toNat - 32 := by
  unfold swB
  rw [if_neg h, if_pos h2, UInt8.toNat_sub_of_le _ _ (by show 32 ≤ b.toNat; omega)]
  rfl
theorem swB_no {b : UInt8} (h : ¬ (65 ≤ b.toNat ∧ b.toNat ≤ 90)) (h2 : ¬ (97 ≤ b.toNat ∧ b.toNat ≤ 122)) : swB b = b := by
  unfold swB
  rw [if_neg h, if_neg h2]
/-- bytes alike: both ASCII, or the same -/
def Al (m n : Nat) : Prop := m = n ∨ (m < 128 ∧ n < 128)
theorem al_sw (b : UInt8) : Al b.toNat (swB b).toNat := by
  by_cases h : 65 ≤ b.toNat ∧ b.toNat ≤ 90
  · right; rw [swB_up h]; omega
  · by_cases h2 : 97 ≤ b.toNat ∧ b.toNat ≤ 122
    · right; rw [swB_lo h h2]; omega
    · left; rw [swB_no h h2]
theorem getD_sw (l : List UInt8) (i : Nat) : Al (l.getD i 0).toNat ((l.map swB).getD i 0).toNat := by
  have e : (l.map swB).getD i 0 = swB (l.getD i 0) := by
    rw [List.getD_eq_getElem?_getD, List.getD_eq_getElem?_getD, List.getElem?_map]
    cases l[i]? with
    | none => rfl
    | some x => rfl
  rw [e]
  exact al_sw _
theorem dec_al (n b0 b1 b2 b3 c1 c2 c3 : Nat) (h0 : 128 ≤ b0) (h1 : Al b1 c1) (h2 : Al b2 c2) (h3 : Al b3 c3) : decodeN n b0 b1 b2 b3 = decodeN n b0 c1 c2 c3 := by
  have k : ∀ {m n : Nat}, Al m n → (m / 64 = 2 → m = n) ∧ (n / 64 = 2 → m = n) := fun {m n} h => by
    rcases h with h | h
    · exact ⟨fun _ => h, fun _ => h⟩
    · exact ⟨fun _ => by omega, fun _ => by omega⟩
  have a1 := k h1
  have a2 := k h2
  have a3 := k h3
  clear h1 h2 h3 k
  by_cases e1 : b1 = c1
  · subst e1
    by_cases e2 : b2 = c2
    · subst e2
      by_cases e3 : b3 = c3
      · subst e3; rfl
      · have d1 : ¬ b3 / 64 = 2 := fun h => e3 (a3.1 h)
        have d2 : ¬ c3 / 64 = 2 := fun h => e3 (a3.2 h)
        unfold decodeN
        simp [d1, d2]
    · have d1 : ¬ b2 / 64 = 2 := fun h => e2 (a2.1 h)
      have d2 : ¬ c2 / 64 = 2 := fun h => e2 (a2.2 h)
      unfold decodeN
      simp [d1, d2]
  · have d1 : ¬ b1 / 64 = 2 := fun h => e1 (a1.1 h)
    have d2 : ¬ c1 / 64 = 2 := fun h => e1 (a1.2 h)
    unfold decodeN
    simp [d1, d2]
/-- a text's first rune, its case swapped -/
theorem dec_sw (l : List UInt8) : (decodeL (l.map swB)).2 = (decodeL l).2 ∧ ((decodeL (l.map swB)).1 = (decodeL l).1 ∨ ∃ b : UInt8, b.toNat < 128 ∧ (decodeL l).1 = b.toNat ∧ (decodeL (l.map swB)).1 = (swB b).toNat) := by
  rw [decodeL_N, decodeL_N, List.length_map]
  have e : (l.map swB).getD 0 0 = swB (l.getD 0 0) := by
    rw [List.getD_eq_getElem?_getD, List.getD_eq_getElem?_getD, List.getElem?_map]
    cases l[0]? with
    | none => rfl
    | some x => rfl
  by_cases h : (l.getD 0 0).toNat < 128
  · have h2 : (swB (l.getD 0 0)).toNat < 128 := by
      rcases al_sw (l.getD 0 0) with h3 | h3
      · omega
      · exact h3.2
    rw [e]
    unfold decodeN
    rw [if_pos h, if_pos h2]
    exact ⟨rfl, .inr ⟨_, h, rfl, rfl⟩⟩
  · have h2 : swB (l.getD 0 0) = l.getD 0 0 := swB_no (by omega) (by omega)
    rw [e, h2, dec_al _ _ _ _ _ _ _ _ (by omega) (getD_sw l 1) (getD_sw l 2) (getD_sw l 3)]
    exact ⟨rfl, .inl rfl⟩
set_option maxRecDepth 100000 in
theorem lowU_sw : ∀ i : Fin 128, toLowerU ((swB (UInt8.ofNat i.val)).toNat : Int) = toLowerU (i.val : Int) := by decide
/-- what IsNameStart and IsNameContinue answer -/
def ns (r : Int) : Bool := decide (97 ≤ r ∧ r ≤ 122 ∨ 65 ≤ r ∧ r ≤ 90 ∨ r = 95 ∨ 128 ≤ r ∨ r = 0)
def nc (r : Int) : Bool := ns r || decide (48 ≤ r ∧ r ≤ 57 ∨ r = 45)
set_option maxRecDepth 100000 in
theorem ns_sw : ∀ i : Fin 128, ns ((swB (UInt8.ofNat i.val)).toNat : Int) = ns (i.val : Int) ∧ nc ((swB (UInt8.ofNat i.val)).toNat : Int) = nc (i.val : Int) ∧ (((swB (UInt8.ofNat i.val)).toNat : Int) = 45 ↔ (i.val : Int) = 45) := by decide
theorem fin_of {b : UInt8} (h : b.toNat < 128) : ∃ i : Fin 128, b = UInt8.ofNat i.val ∧ b.toNat = i.val := ⟨⟨b.toNat, h⟩, by simp, rfl⟩
/-- all that is asked of the first rune -/
theorem dec_all (l : List UInt8) : (decodeL (l.map swB)).2 = (decodeL l).2 ∧ toLowerU ((decodeL (l.map swB)).1 : Int) = toLowerU ((decodeL l).1 : Int) ∧ ns ((decodeL (l.map swB)).1 : Int) = ns ((decodeL l).1 : Int) ∧ nc ((decodeL (l.map swB)).1 : Int) = nc ((decodeL l).1 : Int) ∧
    (((decodeL (l.map swB)).1 = 45) ↔ (decodeL l).1 = 45) ∧ ((decodeL (l.map swB)).1 = 65533 ↔ (decodeL l).1 = 65533) := by
  obtain ⟨h1, h2⟩ := dec_sw l
  refine ⟨h1, ?_⟩
  rcases h2 with h2 | ⟨b, hb, e1, e2⟩
  · rw [h2]; exact ⟨rfl, rfl, rfl, Iff.rfl, Iff.rfl⟩
  · obtain ⟨i, hi, hi2⟩ := fin_of hb
    have h3 := lowU_sw i
    obtain ⟨h4, h5, h6⟩ := ns_sw i
    have h7 := al_sw b
    rw [e1, e2]
    rw [hi2] at hb ⊢
    rw [hi] at h7 ⊢
    refine ⟨h3, h4, h5, by omega, ?_⟩
    have h8 : (UInt8.ofNat i.val).toNat = i.val := by rw [← hi, hi2]
    rw [h8] at h7
    unfold Al at h7
    omega
theorem low_sw : ∀ (n : Nat) (l : List UInt8), l.length ≤ n → toLowerD (l.map swB) = toLowerD l
  | 0, [], _ => rfl
  | 0, _ :: _, h => by simp at h
  | n + 1, [], _ => rfl
  | n + 1, b :: t, h => by
    unfold toLowerD
    obtain ⟨h1, h2, _⟩ := dec_all (b :: t)
    have hw := decodeL_width (b :: t)
    rw [mapD_step toLowerU ((b :: t).map swB) (by simp), mapD_step toLowerU (b :: t) (by simp), h1, h2, ← List.map_drop]
    congr 1
    exact low_sw n _ (by rw [List.length_drop]; omega)
/-- every rune continues a name -/
def allN : Nat → List UInt8 → Bool
  | 0, _ => true
  | n + 1, l => if l = [] then true else nc ((decodeL l).1 : Int) && allN n (l.drop (decodeL l).2)
theorem allN_sw : ∀ (n : Nat) (l : List UInt8), allN n (l.map swB) = allN n l
  | 0, _ => rfl
  | n + 1, [] => rfl
  | n + 1, b :: t => by
    obtain ⟨h1, _, _, h2, _⟩ := dec_all (b :: t)
    unfold allN
    rw [if_neg (by simp), if_neg (by simp), h1, h2, ← List.map_drop, allN_sw n]
theorem allN_fuel : ∀ (n m : Nat) (l : List UInt8), l.length ≤ n → l.length ≤ m → allN n l = allN m l
  | 0, m, [], _, _ => by cases m <;> rfl
  | 0, _, _ :: _, h, _ => by simp at h
  | n + 1, 0, [], _, _ => rfl
  | n + 1, 0, _ :: _, _, h => by simp at h
  | n + 1, m + 1, [], _, _ => rfl
  | n + 1, m + 1, b :: t, hn, hm => by
    have hw := decodeL_width (b :: t)
    unfold allN
    rw [if_neg (by simp), if_neg (by simp), allN_fuel n m]
    · rw [List.length_drop]; omega
    · rw [List.length_drop]; omega
/-- a rune that starts a name, or is the sign -/
def st2 (l : List UInt8) : Bool := decide (l ≠ [] ∧ ¬ ((decodeL l).1 = 65533 ∧ (decodeL l).2 ≤ 1)) && (ns ((decodeL l).1 : Int) || decide ((decodeL l).1 = 45))
/-- what WouldStartIdentifierWithoutEscapes answers -/
def wsi (l : List UInt8) : Bool := decide (l ≠ [] ∧ ¬ ((decodeL l).1 = 65533 ∧ (decodeL l).2 ≤ 1)) && (ns ((decodeL l).1 : Int) || (decide ((decodeL l).1 = 45) && st2 (l.drop (decodeL l).2)))
theorem st2_sw (l : List UInt8) : st2 (l.map swB) = st2 l := by
  obtain ⟨h1, _, h2, _, h3, h4⟩ := dec_all l
  unfold st2
  rw [h1, h2]
  congr 1
  · simp only [decide_eq_decide, h4, ne_eq, List.map_eq_nil_iff]
  · congr 1
    simp only [decide_eq_decide, h3]
theorem wsi_sw (l : List UInt8) : wsi (l.map swB) = wsi l := by
  obtain ⟨h1, _, h2, _, h3, h4⟩ := dec_all l
  unfold wsi
  rw [h1, h2, ← List.map_drop, st2_sw]
  congr 1
  · simp only [decide_eq_decide, h4, ne_eq, List.map_eq_nil_iff]
  · congr 2
    simp only [decide_eq_decide, h3]
/-- what isValidCustomIdent answers -/
def vci (k s : ByteArray) : Bool := !decide (lowB s = k) && (!lookD (.map cssL) (lowB s) && (!((lowB s).toList == []) && (wsi s.data.toList && allN s.size s.data.toList)))
def swS (s : ByteArray) : ByteArray := ⟨(s.data.toList.map swB).toArray⟩
theorem swS_list (s : ByteArray) : (swS s).data.toList = s.data.toList.map swB := by simp [swS]
theorem ba_size (s : ByteArray) : s.size = s.data.toList.length := Array.length_toList.symm
theorem vci_sw (k s : ByteArray) : vci k (swS s) = vci k s := by
  have e : lowB (swS s) = lowB s := by
    unfold lowB
    rw [swS_list, low_sw _ _ (Nat.le_refl _)]
  unfold vci
  rw [e, swS_list, wsi_sw, ba_size (swS s), swS_list, List.length_map, allN_sw, ba_size s]
end Go.Proofs.YtgicookbgfodbaaDoor.Sy
