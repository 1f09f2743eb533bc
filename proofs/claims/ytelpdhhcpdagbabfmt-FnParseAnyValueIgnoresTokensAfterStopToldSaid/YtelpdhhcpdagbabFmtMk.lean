/-
  The machine with a stack of closers; zzKindAt; zzSkip's answer in terms of the machine.
-/
import Derived.Test.YtelpdhhcpdagbabFmtSl
namespace Go.Proofs.YtelpdhhcpdagbabFmt.Av
open Go.ChangeShapes Go.WideShapes Go.ChangeAt Go.RowKit Rg
set_option linter.unusedVariables false
/-- the kind at place i of n tokens (0: the end) -/
def kat (n : Nat) (K : Nat → Int) (i : Nat) : Int := if i < n then K i else 0
/-- the closer that an opener asks for (0: no opener) -/
def opn (k : Int) : Int := if k = 33 ∨ k = 27 then 8 else if k = 32 then 7 else if k = 31 then 6 else 0
def clo (k : Int) : Prop := k = 6 ∨ k = 7 ∨ k = 8
instance (k : Int) : Decidable (clo k) := by unfold clo; infer_instance
def run (n : Nat) (K : Nat → Int) : Nat → List Int → Nat → Nat
  | 0, _, i => i
  | f + 1, st, i =>
    if kat n K i = 0 then i
    else if clo (kat n K i) then
      (if st.head? = some (kat n K i) then run n K f st.tail (i + 1) else i)
    else if kat n K i = 35 ∨ kat n K i = 19 then (if st = [] then i else run n K f st (i + 1))
    else if opn (kat n K i) ≠ 0 then run n K f (opn (kat n K i) :: st) (i + 1)
    else run n K f st (i + 1)
def R (n : Nat) (K : Nat → Int) (st : List Int) (i : Nat) : Nat := run n K (n - i) st i
section
variable {n : Nat} {K : Nat → Int} {st : List Int} {i : Nat}
theorem kat_lt (h : kat n K i ≠ 0) : i < n := by
  unfold kat at h
  by_cases hi : i < n
  · exact hi
  · rw [if_neg hi] at h; exact absurd rfl h
theorem R_zero (h : kat n K i = 0) : R n K st i = i := by
  unfold R
  cases n - i with
  | zero => rfl
  | succ f => rw [run, if_pos h]
theorem fuel (h : i < n) : n - i = (n - (i + 1)) + 1 := by omega
theorem R_top (h : clo (kat n K i)) : R n K [] i = i := by
  have h0 : kat n K i ≠ 0 := by unfold clo at h; omega
  unfold R
  rw [fuel (kat_lt h0), run, if_neg h0, if_pos h, if_neg (by simp)]
theorem R_pop {c : Int} (h : clo c) (hc : kat n K i = c) : R n K (c :: st) i = R n K st (i + 1) := by
  have h0 : kat n K i ≠ 0 := by unfold clo at h; omega
  unfold R
  rw [fuel (kat_lt h0), run, if_neg h0, if_pos (by rw [hc]; exact h), if_pos (by rw [hc]; rfl)]
  rfl
theorem R_bad {c : Int} (h : clo (kat n K i)) (hc : kat n K i ≠ c) : R n K (c :: st) i = i := by
  have h0 : kat n K i ≠ 0 := by unfold clo at h; omega
  unfold R
  rw [fuel (kat_lt h0), run, if_neg h0, if_pos h, if_neg (by intro e; injection e with e; exact hc e.symm)]
theorem R_semi_top (h : kat n K i = 35 ∨ kat n K i = 19) : R n K [] i = i := by
  have h0 : kat n K i ≠ 0 := by omega
  unfold R
  rw [fuel (kat_lt h0), run, if_neg h0, if_neg (by unfold clo; omega), if_pos h, if_pos rfl]
theorem R_semi {c : Int} (h : kat n K i = 35 ∨ kat n K i = 19) : R n K (c :: st) i = R n K (c :: st) (i + 1) := by
  have h0 : kat n K i ≠ 0 := by omega
  unfold R
  rw [fuel (kat_lt h0), run, if_neg h0, if_neg (by unfold clo; omega), if_pos h, if_neg (by simp)]
theorem R_open (h : opn (kat n K i) ≠ 0) : R n K st i = R n K (opn (kat n K i) :: st) (i + 1) := by
  have h2 : kat n K i = 33 ∨ kat n K i = 27 ∨ kat n K i = 32 ∨ kat n K i = 31 := by
    unfold opn at h
    by_cases a : kat n K i = 33 ∨ kat n K i = 27
    · omega
    · rw [if_neg a] at h
      by_cases b : kat n K i = 32
      · omega
      · rw [if_neg b] at h
        by_cases c : kat n K i = 31
        · omega
        · rw [if_neg c] at h; exact absurd rfl h
  have h0 : kat n K i ≠ 0 := by omega
  unfold R
  rw [fuel (kat_lt h0), run, if_neg h0, if_neg (by unfold clo; omega), if_neg (by omega), if_pos h]
theorem R_other (h0 : kat n K i ≠ 0) (h1 : ¬ clo (kat n K i)) (h2 : ¬ (kat n K i = 35 ∨ kat n K i = 19)) (h3 : opn (kat n K i) = 0) : R n K st i = R n K st (i + 1) := by
  unfold R
  rw [fuel (kat_lt h0), run, if_neg h0, if_neg h1, if_neg h2, if_neg (by simp [h3])]
end
def KPost (k : Int) (w : World) (e : Ending) (w' : World) : Prop := e = .returned (.int .u8 k) ∧ w = w'
set_option maxRecDepth 100000 in
theorem kind_any (a : Option Addr) (n c : Nat) (K : Nat → Int) (i : Nat) (w : World) (h : Sl w a n (fun j => .int .u8 (K j))) :
    Calls Tryf.prog 13 #[.slice a n c, .int .i64 i] w (KPost (kat n K i) w) := by
  by_cases hi : i < n
  · obtain ⟨ab, ao, hx, d⟩ := h i hi
    subst hx
    rw [show kat n K i = K i from if_pos hi]
    have q0 : (0 : Int) ≤ i := by omega
    have q1 : (i : Int) < n := by omega
    clear h
    go_enter Tryf.func13, Tryf.ntmps13
    go_wp2_with fail
    go_ret
    exact ⟨rfl, rfl⟩
  · rw [show kat n K i = 0 from if_neg hi]
    have q1 : (n : Int) ≤ i := by omega
    clear h
    go_enter Tryf.func13, Tryf.ntmps13
    go_wp2_with fail
    go_ret
    exact ⟨rfl, rfl⟩
/-- the stack that the scan stands for -/
def stk (b : Bool) (c : Int) (S : List Int) : List Int := if b = true then c :: S else []
/-- what zzSkip answers -/
def SkPost (n : Nat) (K : Nat → Int) (b : Bool) (c : Int) (i : Nat) (w : World) (e : Ending) (w' : World) : Prop :=
  ∃ (j : Nat) (s : Bool), e = .returned (.tuple #[.int .i64 j, .bool s]) ∧ w = w' ∧ i ≤ j ∧ j ≤ n ∧
    ((s = true ∧ ∀ S, R n K (stk b c S) i = j) ∨ (s = false ∧ b = true ∧ j < n ∧ ∀ S, R n K (stk b c S) i = R n K S (j + 1)))
set_option maxRecDepth 100000 in
set_option maxHeartbeats 4000000 in
theorem skip_any (a : Option Addr) (n cc : Nat) (K : Nat → Int) (hn : (n : Int) ≤ 4611686018427387903) (m : Nat) :
    ∀ (b : Bool) (c : Int) (i : Nat) (w : World), n - i ≤ m → i ≤ n → (b = true → clo c) → Sl w a n (fun j => .int .u8 (K j)) →
    Calls Tryf.prog 11 #[.slice a n cc, .int .i64 i, .int .u8 c, .bool b] w (SkPost n K b c i w) := by
  induction m using Nat.strongRecOn with
  | _ m ih =>
  intro b c i w hm hi hc hs
  have HS := Lib.hid hs
  have IH := Lib.hid ih
  have HC := Lib.hid hc
  have HM := Lib.hid hm
  clear ih hs hc hm
  go_enter Tryf.func11, Tryf.ntmps11
  go_wp2_with fail
  go_loop [1] (fun x => ∃ t : Nat, i ≤ t ∧ t ≤ n ∧ x = .int .i64 t ∧ Hid (∀ S, R n K (stk b c S) i = R n K (stk b c S) t)) (fun x => n - (intOf x).toNat)
  case atStart => exact ⟨i, Nat.le_refl _, hi, rfl, Lib.hid (fun S => rfl)⟩
  case round =>
    obtain ⟨t, hit, htn, rfl, HR⟩ := hrel
    go_wp2_with fail
    refine (kind_any a n cc K t w HS.out).mono ?_
    rintro e w1 ⟨rfl, rfl⟩
    have hb : b = true ∨ b = false := by cases b <;> simp
    obtain ⟨k, hk⟩ : ∃ k, k = kat n K t := ⟨_, rfl⟩
    rw [← hk]
    have HK := Lib.hid hk.symm
    have hkn : k ≠ 0 → t < n := fun h => kat_lt (by rw [← hk]; exact h)
    clear hk
    by_cases hk0 : k = 0
    · as_aux_lemma =>
      subst hk0
      go_wp2_with fail
      go_ret2
      exact ⟨t, true, rfl, rfl, by omega, by omega, .inl ⟨rfl, fun S => by rw [HR.out S, R_zero HK.out]⟩⟩
    by_cases hk8 : k = 8
    · as_aux_lemma =>
      subst hk8
      have htn2 := hkn (by decide)
      clear hkn
      rcases hb with rfl | rfl
      · by_cases hc2 : c = 8
        · subst hc2
          go_wp2_with fail
          go_ret2
          exact ⟨t, false, rfl, rfl, by omega, by omega, .inr ⟨rfl, rfl, htn2, fun S => by rw [HR.out S]; exact R_pop (by decide) HK.out⟩⟩
        · have hcf : ((8 : Int) == c) = false := by simp; omega
          go_wp2_with fail
          go_ret2
          exact ⟨t, true, rfl, rfl, by omega, by omega, .inl ⟨rfl, fun S => by rw [HR.out S]; exact R_bad (by rw [HK.out]; decide) (by rw [HK.out]; omega)⟩⟩
      · go_wp2_with fail
        go_ret2
        exact ⟨t, true, rfl, rfl, by omega, by omega, .inl ⟨rfl, fun S => by rw [HR.out S]; exact R_top (by rw [HK.out]; decide)⟩⟩
    by_cases hk7 : k = 7
    · as_aux_lemma =>
      subst hk7
      have htn2 := hkn (by decide)
      clear hkn
      rcases hb with rfl | rfl
      · by_cases hc2 : c = 7
        · subst hc2
          go_wp2_with fail
          go_ret2
          exact ⟨t, false, rfl, rfl, by omega, by omega, .inr ⟨rfl, rfl, htn2, fun S => by rw [HR.out S]; exact R_pop (by decide) HK.out⟩⟩
        · have hcf : ((7 : Int) == c) = false := by simp; omega
          go_wp2_with fail
          go_ret2
          exact ⟨t, true, rfl, rfl, by omega, by omega, .inl ⟨rfl, fun S => by rw [HR.out S]; exact R_bad (by rw [HK.out]; decide) (by rw [HK.out]; omega)⟩⟩
      · go_wp2_with fail
        go_ret2
        exact ⟨t, true, rfl, rfl, by omega, by omega, .inl ⟨rfl, fun S => by rw [HR.out S]; exact R_top (by rw [HK.out]; decide)⟩⟩
    by_cases hk6 : k = 6
    · as_aux_lemma =>
      subst hk6
      have htn2 := hkn (by decide)
      clear hkn
      rcases hb with rfl | rfl
      · by_cases hc2 : c = 6
        · subst hc2
          go_wp2_with fail
          go_ret2
          exact ⟨t, false, rfl, rfl, by omega, by omega, .inr ⟨rfl, rfl, htn2, fun S => by rw [HR.out S]; exact R_pop (by decide) HK.out⟩⟩
        · have hcf : ((6 : Int) == c) = false := by simp; omega
          go_wp2_with fail
          go_ret2
          exact ⟨t, true, rfl, rfl, by omega, by omega, .inl ⟨rfl, fun S => by rw [HR.out S]; exact R_bad (by rw [HK.out]; decide) (by rw [HK.out]; omega)⟩⟩
      · go_wp2_with fail
        go_ret2
        exact ⟨t, true, rfl, rfl, by omega, by omega, .inl ⟨rfl, fun S => by rw [HR.out S]; exact R_top (by rw [HK.out]; decide)⟩⟩
    by_cases hk35 : k = 35
    · as_aux_lemma =>
      subst hk35
      have htn2 := hkn (by decide)
      clear hkn
      rcases hb with rfl | rfl
      · go_wp2_with fail
        go_round
        case rel => exact ⟨t + 1, by omega, by omega, by go_num, Lib.hid (fun S => by rw [HR.out S]; exact R_semi (.inl HK.out))⟩
        case measure => simp [intOf]; omega
      · go_wp2_with fail
        go_ret2
        exact ⟨t, true, rfl, rfl, by omega, by omega, .inl ⟨rfl, fun S => by rw [HR.out S]; exact R_semi_top (.inl HK.out)⟩⟩
    by_cases hk19 : k = 19
    · as_aux_lemma =>
      subst hk19
      have htn2 := hkn (by decide)
      clear hkn
      rcases hb with rfl | rfl
      · go_wp2_with fail
        go_round
        case rel => exact ⟨t + 1, by omega, by omega, by go_num, Lib.hid (fun S => by rw [HR.out S]; exact R_semi (.inr HK.out))⟩
        case measure => simp [intOf]; omega
      · go_wp2_with fail
        go_ret2
        exact ⟨t, true, rfl, rfl, by omega, by omega, .inl ⟨rfl, fun S => by rw [HR.out S]; exact R_semi_top (.inr HK.out)⟩⟩
    by_cases hk33 : k = 33
    · as_aux_lemma =>
      subst hk33
      have htn2 := hkn (by decide)
      have hop : opn (kat n K t) = 8 := by rw [HK.out]; decide
      have HO := Lib.hid (fun S => (R_open (n := n) (K := K) (st := S) (i := t) (by rw [hop]; decide)).trans (by rw [hop]))
      clear hkn hop
      go_wp2_with fail
      refine (show Calls Tryf.prog 11 #[.slice a n cc, .int .i64 ((t + 1 : Nat) : Int), .int .u8 8, .bool true] w (SkPost n K true 8 (t + 1) w) from IH.out (n - (t + 1)) (by have := HM.out; omega) true 8 (t + 1) w (Nat.le_refl _) (by omega) (fun _ => by decide) HS.out).mono ?_
      rintro e w2 ⟨j, s, rfl, rfl, hj1, hj2, hs2⟩
      have HP := Lib.hid hs2
      clear hs2
      cases s
      · have hj3 : j < n := by rcases HP.out with ⟨h, -⟩ | ⟨-, -, h, -⟩; cases h; exact h
        have HP2 : Hid (∀ S, R n K (8 :: S) (t + 1) = R n K S (j + 1)) := Lib.hid (by rcases HP.out with ⟨h, -⟩ | ⟨-, -, -, h⟩; cases h; exact h)
        clear HP
        go_wp2_with fail
        go_round
        case rel => exact ⟨j + 1, by omega, by omega, by go_num, Lib.hid (fun S => by rw [HR.out S, HO.out, HP2.out])⟩
        case measure => simp [intOf]; omega
      · have HP2 : Hid (∀ S, R n K (8 :: S) (t + 1) = j) := Lib.hid (by rcases HP.out with ⟨-, h⟩ | ⟨h, -, -⟩; exact h; cases h)
        clear HP
        go_wp2_with fail
        go_ret2
        exact ⟨j, true, rfl, rfl, by omega, by omega, .inl ⟨rfl, fun S => by rw [HR.out S, HO.out, HP2.out]⟩⟩
    by_cases hk27 : k = 27
    · as_aux_lemma =>
      subst hk27
      have htn2 := hkn (by decide)
      have hop : opn (kat n K t) = 8 := by rw [HK.out]; decide
      have HO := Lib.hid (fun S => (R_open (n := n) (K := K) (st := S) (i := t) (by rw [hop]; decide)).trans (by rw [hop]))
      clear hkn hop
      go_wp2_with fail
      refine (show Calls Tryf.prog 11 #[.slice a n cc, .int .i64 ((t + 1 : Nat) : Int), .int .u8 8, .bool true] w (SkPost n K true 8 (t + 1) w) from IH.out (n - (t + 1)) (by have := HM.out; omega) true 8 (t + 1) w (Nat.le_refl _) (by omega) (fun _ => by decide) HS.out).mono ?_
      rintro e w2 ⟨j, s, rfl, rfl, hj1, hj2, hs2⟩
      have HP := Lib.hid hs2
      clear hs2
      cases s
      · have hj3 : j < n := by rcases HP.out with ⟨h, -⟩ | ⟨-, -, h, -⟩; cases h; exact h
        have HP2 : Hid (∀ S, R n K (8 :: S) (t + 1) = R n K S (j + 1)) := Lib.hid (by rcases HP.out with ⟨h, -⟩ | ⟨-, -, -, h⟩; cases h; exact h)
        clear HP
        go_wp2_with fail
        go_round
        case rel => exact ⟨j + 1, by omega, by omega, by go_num, Lib.hid (fun S => by rw [HR.out S, HO.out, HP2.out])⟩
        case measure => simp [intOf]; omega
      · have HP2 : Hid (∀ S, R n K (8 :: S) (t + 1) = j) := Lib.hid (by rcases HP.out with ⟨-, h⟩ | ⟨h, -, -⟩; exact h; cases h)
        clear HP
        go_wp2_with fail
        go_ret2
        exact ⟨j, true, rfl, rfl, by omega, by omega, .inl ⟨rfl, fun S => by rw [HR.out S, HO.out, HP2.out]⟩⟩
    by_cases hk32 : k = 32
    · as_aux_lemma =>
      subst hk32
      have htn2 := hkn (by decide)
      have hop : opn (kat n K t) = 7 := by rw [HK.out]; decide
      have HO := Lib.hid (fun S => (R_open (n := n) (K := K) (st := S) (i := t) (by rw [hop]; decide)).trans (by rw [hop]))
      clear hkn hop
      go_wp2_with fail
      refine (show Calls Tryf.prog 11 #[.slice a n cc, .int .i64 ((t + 1 : Nat) : Int), .int .u8 7, .bool true] w (SkPost n K true 7 (t + 1) w) from IH.out (n - (t + 1)) (by have := HM.out; omega) true 7 (t + 1) w (Nat.le_refl _) (by omega) (fun _ => by decide) HS.out).mono ?_
      rintro e w2 ⟨j, s, rfl, rfl, hj1, hj2, hs2⟩
      have HP := Lib.hid hs2
      clear hs2
      cases s
      · have hj3 : j < n := by rcases HP.out with ⟨h, -⟩ | ⟨-, -, h, -⟩; cases h; exact h
        have HP2 : Hid (∀ S, R n K (7 :: S) (t + 1) = R n K S (j + 1)) := Lib.hid (by rcases HP.out with ⟨h, -⟩ | ⟨-, -, -, h⟩; cases h; exact h)
        clear HP
        go_wp2_with fail
        go_round
        case rel => exact ⟨j + 1, by omega, by omega, by go_num, Lib.hid (fun S => by rw [HR.out S, HO.out, HP2.out])⟩
        case measure => simp [intOf]; omega
      · have HP2 : Hid (∀ S, R n K (7 :: S) (t + 1) = j) := Lib.hid (by rcases HP.out with ⟨-, h⟩ | ⟨h, -, -⟩; exact h; cases h)
        clear HP
        go_wp2_with fail
        go_ret2
        exact ⟨j, true, rfl, rfl, by omega, by omega, .inl ⟨rfl, fun S => by rw [HR.out S, HO.out, HP2.out]⟩⟩
    by_cases hk31 : k = 31
    · as_aux_lemma =>
      subst hk31
      have htn2 := hkn (by decide)
      have hop : opn (kat n K t) = 6 := by rw [HK.out]; decide
      have HO := Lib.hid (fun S => (R_open (n := n) (K := K) (st := S) (i := t) (by rw [hop]; decide)).trans (by rw [hop]))
      clear hkn hop
      go_wp2_with fail
      refine (show Calls Tryf.prog 11 #[.slice a n cc, .int .i64 ((t + 1 : Nat) : Int), .int .u8 6, .bool true] w (SkPost n K true 6 (t + 1) w) from IH.out (n - (t + 1)) (by have := HM.out; omega) true 6 (t + 1) w (Nat.le_refl _) (by omega) (fun _ => by decide) HS.out).mono ?_
      rintro e w2 ⟨j, s, rfl, rfl, hj1, hj2, hs2⟩
      have HP := Lib.hid hs2
      clear hs2
      cases s
      · have hj3 : j < n := by rcases HP.out with ⟨h, -⟩ | ⟨-, -, h, -⟩; cases h; exact h
        have HP2 : Hid (∀ S, R n K (6 :: S) (t + 1) = R n K S (j + 1)) := Lib.hid (by rcases HP.out with ⟨h, -⟩ | ⟨-, -, -, h⟩; cases h; exact h)
        clear HP
        go_wp2_with fail
        go_round
        case rel => exact ⟨j + 1, by omega, by omega, by go_num, Lib.hid (fun S => by rw [HR.out S, HO.out, HP2.out])⟩
        case measure => simp [intOf]; omega
      · have HP2 : Hid (∀ S, R n K (6 :: S) (t + 1) = j) := Lib.hid (by rcases HP.out with ⟨-, h⟩ | ⟨h, -, -⟩; exact h; cases h)
        clear HP
        go_wp2_with fail
        go_ret2
        exact ⟨j, true, rfl, rfl, by omega, by omega, .inl ⟨rfl, fun S => by rw [HR.out S, HO.out, HP2.out]⟩⟩
    as_aux_lemma =>
    have b0 : (k == 0) = false := by simp; omega
    have b8 : (k == 8) = false := by simp; omega
    have b7 : (k == 7) = false := by simp; omega
    have b6 : (k == 6) = false := by simp; omega
    have b35 : (k == 35) = false := by simp; omega
    have b19 : (k == 19) = false := by simp; omega
    have b33 : (k == 33) = false := by simp; omega
    have b27 : (k == 27) = false := by simp; omega
    have b32 : (k == 32) = false := by simp; omega
    have b31 : (k == 31) = false := by simp; omega
    have htn2 := hkn hk0
    have HX := Lib.hid (fun S => R_other (n := n) (K := K) (st := S) (i := t) (by rw [HK.out]; exact hk0) (by rw [HK.out]; unfold clo; omega) (by rw [HK.out]; omega) (by rw [HK.out]; unfold opn; rw [if_neg (by omega), if_neg (by omega), if_neg (by omega)]))
    clear hkn hk0 hk8 hk7 hk6 hk35 hk19 hk33 hk27 hk32 hk31
    go_wp2_with fail
    go_round
    case rel => exact ⟨t + 1, by omega, by omega, by go_num, Lib.hid (fun S => by rw [HR.out S, HX.out])⟩
    case measure => simp [intOf]; omega
end Go.Proofs.YtelpdhhcpdagbabFmt.Av
