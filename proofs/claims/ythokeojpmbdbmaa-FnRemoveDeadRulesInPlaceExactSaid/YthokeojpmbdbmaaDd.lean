/-
  One subclass selector: its key, whether it is dead, its builder.
-/
import Derived.Test.YthokeojpmbdbmaaDc
namespace Go.Proofs.Ythokeojpmbdbmaa.Dr
open Go.ChangeShapes Go.WideShapes Go.ChangeAt Go.RowKit Rg
set_option linter.unusedVariables false
set_option linter.unusedSimpArgs false
theorem mod3 (x : Nat) : x % 3 = 0 ∨ x % 3 = 1 ∨ x % 3 = 2 := by omega
/-- the two lists that say what a subclass selector is -/
def TK (g : Gv) (X : Nat → Prop) (w : World) (ta : Option Addr) (tn : Nat) (ka : Option Addr) (kn : Nat) : Prop := Bt X w ta tn g.T ∧ Bt X w ka kn g.K
theorem TK.to {g : Gv} {X Y : Nat → Prop} {w w' : World} {ta : Option Addr} {tn : Nat} {ka : Option Addr} {kn : Nat} (h : TK g X w ta tn ka kn) (ht : To X w Y w') : TK g Y w' ta tn ka kn := ⟨h.1.to ht, h.2.to ht⟩
theorem sk0 {g : Gv} {j : Nat} (h : g.T j % 3 = 0) : sk g j = 0 := by unfold sk; rw [if_pos h]
theorem sk1 {g : Gv} {j : Nat} (h : g.T j % 3 = 1) : sk g j = 256 + g.K j := by unfold sk; rw [h]; simp
theorem sk2 {g : Gv} {j : Nat} (h : g.T j % 3 = 2) : sk g j = 512 + g.K j := by unfold sk; rw [h]; simp
set_option maxRecDepth 100000 in
set_option maxHeartbeats 1000000 in
theorem skey_any (g : Gv) (X : Nat → Prop) (ta : Option Addr) (tn tc : Nat) (ka : Option Addr) (kn kc : Nat) (j : Nat) (w : World) (h : TK g X w ta tn ka kn) :
    Calls Try.prog 19 #[.slice ta tn tc, .slice ka kn kc, .int .i64 (j : Nat)] w (fun e w' => e = .returned (.int .i64 (sk g j : Nat)) ∧ w = w') := by
  have HT := Lib.hid h
  have hk := h.2.2.1 j
  obtain ⟨s, hs⟩ : ∃ s, s = sk g j := ⟨_, rfl⟩
  have HS := Lib.hid hs
  rw [← hs]
  clear hs h
  rcases mod3 (g.T j) with e | e | e
  · have H0 := Lib.hid (show s = 0 by rw [HS.out, sk0 e])
    have hr : ((g.T j : Nat) : Int) % 3 = 0 := by omega
    clear e
    go_enter Try.func19, Try.ntmps19
    go_wp2_with fail
    refine (at_any X ta tn tc g.T j w HT.out.1).mono ?_
    rintro e w1 ⟨rfl, hw⟩
    rw [← hw]
    clear hw
    go_wp2_with fail
    go_ret
    exact ⟨by rw [H0.out]; rfl, rfl⟩
  · have hr : ((g.T j : Nat) : Int) % 3 = 1 := by omega
    have hw1 : IntKind.i64.wrap (256 + ((g.K j : Nat) : Int)) = (s : Nat) := by
      rw [HS.out, sk1 e]
      simp [IntKind.wrap, IntKind.bits, IntKind.signed]
      omega
    clear e
    go_enter Try.func19, Try.ntmps19
    go_wp2_with fail
    refine (at_any X ta tn tc g.T j w HT.out.1).mono ?_
    rintro e w1 ⟨rfl, hw⟩
    rw [← hw]
    clear hw
    go_wp2_with fail
    refine (at_any X ka kn kc g.K j w HT.out.2).mono ?_
    rintro e w1 ⟨rfl, hw⟩
    rw [← hw]
    clear hw
    go_wp2_with fail
    go_ret
    exact ⟨rfl, rfl⟩
  · have hr : ((g.T j : Nat) : Int) % 3 = 2 := by omega
    have hw1 : IntKind.i64.wrap (512 + ((g.K j : Nat) : Int)) = (s : Nat) := by
      rw [HS.out, sk2 e]
      simp [IntKind.wrap, IntKind.bits, IntKind.signed]
      omega
    clear e
    go_enter Try.func19, Try.ntmps19
    go_wp2_with fail
    refine (at_any X ta tn tc g.T j w HT.out.1).mono ?_
    rintro e w1 ⟨rfl, hw⟩
    rw [← hw]
    clear hw
    go_wp2_with fail
    refine (at_any X ka kn kc g.K j w HT.out.2).mono ?_
    rintro e w1 ⟨rfl, hw⟩
    rw [← hw]
    clear hw
    go_wp2_with fail
    go_ret
    exact ⟨rfl, rfl⟩
theorem dS_sk {g : Gv} (hK : ∀ i, g.K i < 256) (j : Nat) : dS (sk g j) = (decide (g.T j % 3 = 1) && (g.K j == 2 || g.K j == 9)) := by
  have h := hK j
  rcases mod3 (g.T j) with e | e | e
  · rw [sk0 e, e]; simp [dS]
  · rw [sk1 e, e]
    by_cases h2 : g.K j = 2
    · rw [h2]; rfl
    · by_cases h9 : g.K j = 9
      · rw [h9]; rfl
      · have a : (256 + g.K j == 258) = false := beq_eq_false_iff_ne.mpr (by omega)
        have b : (256 + g.K j == 265) = false := beq_eq_false_iff_ne.mpr (by omega)
        have c : (g.K j == 2) = false := beq_eq_false_iff_ne.mpr h2
        have d : (g.K j == 9) = false := beq_eq_false_iff_ne.mpr h9
        unfold dS
        rw [a, b, c, d]
        rfl
  · rw [sk2 e, e]
    have a : (512 + g.K j == 258) = false := beq_eq_false_iff_ne.mpr (by omega)
    have b : (512 + g.K j == 265) = false := beq_eq_false_iff_ne.mpr (by omega)
    unfold dS
    rw [a, b]
    rfl
theorem u8_self (x : Nat) (h : x < 256) : IntKind.u8.wrap (x : Int) = (x : Int) := by
  simp [IntKind.wrap, IntKind.bits, IntKind.signed]
  omega
set_option maxRecDepth 100000 in
set_option maxHeartbeats 1000000 in
theorem sdead_any (g : Gv) (X : Nat → Prop) (ta : Option Addr) (tn tc : Nat) (ka : Option Addr) (kn kc : Nat) (j : Nat) (w : World) (h : TK g X w ta tn ka kn) :
    Calls Try.prog 18 #[.slice ta tn tc, .slice ka kn kc, .int .i64 (j : Nat)] w (fun e w' => e = .returned (.bool (dS (sk g j))) ∧ w = w') := by
  have HT := Lib.hid h
  have hk := u8_self _ (h.2.2.1 j)
  obtain ⟨s, hs⟩ : ∃ s, s = dS (sk g j) := ⟨_, rfl⟩
  have HS := Lib.hid (show s = (decide (g.T j % 3 = 1) && (g.K j == 2 || g.K j == 9)) by rw [hs, dS_sk h.2.2.1])
  rw [← hs]
  clear hs h
  by_cases e : g.T j % 3 = 1
  · have hr : ((g.T j : Nat) : Int) % 3 = 1 := by omega
    have H1 := Lib.hid (show s = (g.K j == 2 || g.K j == 9) by rw [HS.out, e]; simp)
    clear e
    by_cases h2 : g.K j = 2
    · have q2 : (((g.K j : Nat) : Int) == 2) = true := beq_iff_eq.2 (by omega)
      have HE := Lib.hid (show s = true by rw [H1.out, h2]; rfl)
      clear h2
      go_enter Try.func18, Try.ntmps18
      go_wp2_with fail
      refine (at_any X ta tn tc g.T j w HT.out.1).mono ?_
      rintro e w1 ⟨rfl, hw⟩
      rw [← hw]
      clear hw
      go_wp2_with fail
      refine (at_any X ka kn kc g.K j w HT.out.2).mono ?_
      rintro e w1 ⟨rfl, hw⟩
      rw [← hw]
      clear hw
      go_wp2_with fail
      go_ret
      exact ⟨by rw [HE.out]; rfl, rfl⟩
    · have q2 : (((g.K j : Nat) : Int) == 2) = false := beq_eq_false_iff_ne.mpr (by omega)
      have HE := Lib.hid (show s = (((g.K j : Nat) : Int) == 9) by
        rw [H1.out, beq_eq_false_iff_ne.mpr h2, Bool.false_or]
        by_cases h9 : g.K j = 9
        · rw [h9]; rfl
        · rw [beq_eq_false_iff_ne.mpr h9]; exact (beq_eq_false_iff_ne.mpr (by omega)).symm)
      clear h2
      go_enter Try.func18, Try.ntmps18
      go_wp2_with fail
      refine (at_any X ta tn tc g.T j w HT.out.1).mono ?_
      rintro e w1 ⟨rfl, hw⟩
      rw [← hw]
      clear hw
      go_wp2_with fail
      refine (at_any X ka kn kc g.K j w HT.out.2).mono ?_
      rintro e w1 ⟨rfl, hw⟩
      rw [← hw]
      clear hw
      go_wp2_with fail
      go_ret
      exact ⟨by rw [HE.out]; rfl, rfl⟩
  · have hr : ¬ (((g.T j : Nat) : Int) % 3 = 1) := by omega
    have HE := Lib.hid (show s = false by rw [HS.out, decide_eq_false e]; rfl)
    clear e
    go_enter Try.func18, Try.ntmps18
    go_wp2_with fail
    refine (at_any X ta tn tc g.T j w HT.out.1).mono ?_
    rintro e w1 ⟨rfl, hw⟩
    rw [← hw]
    clear hw
    go_wp2_with fail
    go_ret
    exact ⟨by rw [HE.out]; rfl, rfl⟩
end Go.Proofs.Ythokeojpmbdbmaa.Dr
