/-
  The walks: IsNameStart, IsNameContinue, WouldStartIdentifierWithoutEscapes, isValidCustomIdent, swapASCIICase.
-/
import Derived.Test.YtgicookbgfodbaaDoorVp
import Derived.Laws.RangeAny
import Derived.Laws.IdiomStrings
import Derived.Lib.ConvBytes
import Derived.Lib.RuneCountTail
import Derived.Lib.IndexBytes
namespace Go.Proofs.YtgicookbgfodbaaDoor.Sy
open Go.ChangeShapes Go.WideShapes Go.ChangeAt Go.RowKit Rg
open Go.ChangeMaps (setBlock heap_setBlock_same heap_setBlock_other)
set_option linter.unusedVariables false
set_option linter.unusedSimpArgs false
set_option maxRecDepth 100000 in
set_option maxHeartbeats 2000000 in
theorem ns_any (r : Int) (w : World) : Calls Tryd.prog 18 #[.int .i32 r] w fun e w' => e = .returned (.bool (ns r)) ∧ w = w' := by
  have hc : (r < 0) ∨ (r = 0) ∨ (1 ≤ r ∧ r ≤ 47) ∨ (48 ≤ r ∧ r ≤ 57) ∨ (58 ≤ r ∧ r ≤ 64) ∨ (65 ≤ r ∧ r ≤ 90) ∨ (91 ≤ r ∧ r ≤ 94) ∨ (r = 95) ∨ (r = 96) ∨ (97 ≤ r ∧ r ≤ 122) ∨ (123 ≤ r ∧ r ≤ 127) ∨ (128 ≤ r) := by omega
  rcases hc with h | h | h | h | h | h | h | h | h | h | h | h
  · have hv : ns r = false := by unfold ns; exact decide_eq_false (by omega)
    have a1 : ¬ (97 : Int) ≤ r := by omega
    have a2 : r ≤ 122 := by omega
    have a3 : ¬ (65 : Int) ≤ r := by omega
    have a4 : r ≤ 90 := by omega
    have a5 : (r == 95) = false := beq_eq_false_iff_ne.mpr (by omega)
    have a6 : ¬ (128 : Int) ≤ r := by omega
    have a7 : (r == 0) = false := beq_eq_false_iff_ne.mpr (by omega)
    clear h
    rw [hv]
    go_enter Tryd.func18, Tryd.ntmps18
    go_wp2_with fail
    all_goals go_ret
    all_goals exact ⟨rfl, rfl⟩
  · have hv : ns r = true := by unfold ns; exact decide_eq_true (by omega)
    have a1 : ¬ (97 : Int) ≤ r := by omega
    have a2 : r ≤ 122 := by omega
    have a3 : ¬ (65 : Int) ≤ r := by omega
    have a4 : r ≤ 90 := by omega
    have a5 : (r == 95) = false := beq_eq_false_iff_ne.mpr (by omega)
    have a6 : ¬ (128 : Int) ≤ r := by omega
    subst h
    clear a1 a2 a3 a4 a6 a5
    rw [hv]
    go_enter Tryd.func18, Tryd.ntmps18
    go_wp2_with fail
    all_goals go_ret
    all_goals exact ⟨rfl, rfl⟩
  · have hv : ns r = false := by unfold ns; exact decide_eq_false (by omega)
    have a1 : ¬ (97 : Int) ≤ r := by omega
    have a2 : r ≤ 122 := by omega
    have a3 : ¬ (65 : Int) ≤ r := by omega
    have a4 : r ≤ 90 := by omega
    have a5 : (r == 95) = false := beq_eq_false_iff_ne.mpr (by omega)
    have a6 : ¬ (128 : Int) ≤ r := by omega
    have a7 : (r == 0) = false := beq_eq_false_iff_ne.mpr (by omega)
    clear h
    rw [hv]
    go_enter Tryd.func18, Tryd.ntmps18
    go_wp2_with fail
    all_goals go_ret
    all_goals exact ⟨rfl, rfl⟩
  · have hv : ns r = false := by unfold ns; exact decide_eq_false (by omega)
    have a1 : ¬ (97 : Int) ≤ r := by omega
    have a2 : r ≤ 122 := by omega
    have a3 : ¬ (65 : Int) ≤ r := by omega
    have a4 : r ≤ 90 := by omega
    have a5 : (r == 95) = false := beq_eq_false_iff_ne.mpr (by omega)
    have a6 : ¬ (128 : Int) ≤ r := by omega
    have a7 : (r == 0) = false := beq_eq_false_iff_ne.mpr (by omega)
    clear h
    rw [hv]
    go_enter Tryd.func18, Tryd.ntmps18
    go_wp2_with fail
    all_goals go_ret
    all_goals exact ⟨rfl, rfl⟩
  · have hv : ns r = false := by unfold ns; exact decide_eq_false (by omega)
    have a1 : ¬ (97 : Int) ≤ r := by omega
    have a2 : r ≤ 122 := by omega
    have a3 : ¬ (65 : Int) ≤ r := by omega
    have a4 : r ≤ 90 := by omega
    have a5 : (r == 95) = false := beq_eq_false_iff_ne.mpr (by omega)
    have a6 : ¬ (128 : Int) ≤ r := by omega
    have a7 : (r == 0) = false := beq_eq_false_iff_ne.mpr (by omega)
    clear h
    rw [hv]
    go_enter Tryd.func18, Tryd.ntmps18
    go_wp2_with fail
    all_goals go_ret
    all_goals exact ⟨rfl, rfl⟩
  · have hv : ns r = true := by unfold ns; exact decide_eq_true (by omega)
    have a1 : ¬ (97 : Int) ≤ r := by omega
    have a2 : r ≤ 122 := by omega
    have a3 : (65 : Int) ≤ r := by omega
    have a4 : r ≤ 90 := by omega
    have a5 : (r == 95) = false := beq_eq_false_iff_ne.mpr (by omega)
    have a6 : ¬ (128 : Int) ≤ r := by omega
    have a7 : (r == 0) = false := beq_eq_false_iff_ne.mpr (by omega)
    clear h
    rw [hv]
    go_enter Tryd.func18, Tryd.ntmps18
    go_wp2_with fail
    all_goals go_ret
    all_goals exact ⟨rfl, rfl⟩
  · have hv : ns r = false := by unfold ns; exact decide_eq_false (by omega)
    have a1 : ¬ (97 : Int) ≤ r := by omega
    have a2 : r ≤ 122 := by omega
    have a3 : (65 : Int) ≤ r := by omega
    have a4 : ¬ r ≤ 90 := by omega
    have a5 : (r == 95) = false := beq_eq_false_iff_ne.mpr (by omega)
    have a6 : ¬ (128 : Int) ≤ r := by omega
    have a7 : (r == 0) = false := beq_eq_false_iff_ne.mpr (by omega)
    clear h
    rw [hv]
    go_enter Tryd.func18, Tryd.ntmps18
    go_wp2_with fail
    all_goals go_ret
    all_goals exact ⟨rfl, rfl⟩
  · have hv : ns r = true := by unfold ns; exact decide_eq_true (by omega)
    have a1 : ¬ (97 : Int) ≤ r := by omega
    have a2 : r ≤ 122 := by omega
    have a3 : (65 : Int) ≤ r := by omega
    have a4 : ¬ r ≤ 90 := by omega
    have a6 : ¬ (128 : Int) ≤ r := by omega
    have a7 : (r == 0) = false := beq_eq_false_iff_ne.mpr (by omega)
    subst h
    clear a1 a2 a3 a4 a6 a7
    rw [hv]
    go_enter Tryd.func18, Tryd.ntmps18
    go_wp2_with fail
    all_goals go_ret
    all_goals exact ⟨rfl, rfl⟩
  · have hv : ns r = false := by unfold ns; exact decide_eq_false (by omega)
    have a1 : ¬ (97 : Int) ≤ r := by omega
    have a2 : r ≤ 122 := by omega
    have a3 : (65 : Int) ≤ r := by omega
    have a4 : ¬ r ≤ 90 := by omega
    have a5 : (r == 95) = false := beq_eq_false_iff_ne.mpr (by omega)
    have a6 : ¬ (128 : Int) ≤ r := by omega
    have a7 : (r == 0) = false := beq_eq_false_iff_ne.mpr (by omega)
    clear h
    rw [hv]
    go_enter Tryd.func18, Tryd.ntmps18
    go_wp2_with fail
    all_goals go_ret
    all_goals exact ⟨rfl, rfl⟩
  · have hv : ns r = true := by unfold ns; exact decide_eq_true (by omega)
    have a1 : (97 : Int) ≤ r := by omega
    have a2 : r ≤ 122 := by omega
    have a3 : (65 : Int) ≤ r := by omega
    have a4 : ¬ r ≤ 90 := by omega
    have a5 : (r == 95) = false := beq_eq_false_iff_ne.mpr (by omega)
    have a6 : ¬ (128 : Int) ≤ r := by omega
    have a7 : (r == 0) = false := beq_eq_false_iff_ne.mpr (by omega)
    clear h
    rw [hv]
    go_enter Tryd.func18, Tryd.ntmps18
    go_wp2_with fail
    all_goals go_ret
    all_goals exact ⟨rfl, rfl⟩
  · have hv : ns r = false := by unfold ns; exact decide_eq_false (by omega)
    have a1 : (97 : Int) ≤ r := by omega
    have a2 : ¬ r ≤ 122 := by omega
    have a3 : (65 : Int) ≤ r := by omega
    have a4 : ¬ r ≤ 90 := by omega
    have a5 : (r == 95) = false := beq_eq_false_iff_ne.mpr (by omega)
    have a6 : ¬ (128 : Int) ≤ r := by omega
    have a7 : (r == 0) = false := beq_eq_false_iff_ne.mpr (by omega)
    clear h
    rw [hv]
    go_enter Tryd.func18, Tryd.ntmps18
    go_wp2_with fail
    all_goals go_ret
    all_goals exact ⟨rfl, rfl⟩
  · have hv : ns r = true := by unfold ns; exact decide_eq_true (by omega)
    have a1 : (97 : Int) ≤ r := by omega
    have a2 : ¬ r ≤ 122 := by omega
    have a3 : (65 : Int) ≤ r := by omega
    have a4 : ¬ r ≤ 90 := by omega
    have a5 : (r == 95) = false := beq_eq_false_iff_ne.mpr (by omega)
    have a6 : (128 : Int) ≤ r := by omega
    have a7 : (r == 0) = false := beq_eq_false_iff_ne.mpr (by omega)
    clear h
    rw [hv]
    go_enter Tryd.func18, Tryd.ntmps18
    go_wp2_with fail
    all_goals go_ret
    all_goals exact ⟨rfl, rfl⟩
set_option maxRecDepth 100000 in
set_option maxHeartbeats 2000000 in
theorem nc_any (r : Int) (w : World) : Calls Tryd.prog 10 #[.int .i32 r] w fun e w' => e = .returned (.bool (nc r)) ∧ w = w' := by
  have h0 := ns_any r w
  unfold nc
  cases hn : ns r with
  | true =>
    rw [hn] at h0
    rw [Bool.true_or]
    go_enter Tryd.func10, Tryd.ntmps10
    go_wp2_with fail
    refine h0.mono ?_
    rintro e wz ⟨rfl, rfl⟩
    clear h0 hn
    go_wp2_with fail
    all_goals go_ret
    all_goals exact ⟨rfl, rfl⟩
  | false =>
    rw [hn] at h0
    rw [Bool.false_or]
    clear hn
    have hc : r < 45 ∨ r = 45 ∨ (46 ≤ r ∧ r ≤ 47) ∨ (48 ≤ r ∧ r ≤ 57) ∨ 58 ≤ r := by omega
    rcases hc with h | h | h | h | h
    · have hv : decide (48 ≤ r ∧ r ≤ 57 ∨ r = 45) = false := decide_eq_false (by omega)
      have a1 : ¬ (48 : Int) ≤ r := by omega
      have a2 : r ≤ 57 := by omega
      have a3 : (r == 45) = false := beq_eq_false_iff_ne.mpr (by omega)
      clear h
      rw [hv]
      clear hv
      go_enter Tryd.func10, Tryd.ntmps10
      go_wp2_with fail
      refine h0.mono ?_
      rintro e wz ⟨rfl, rfl⟩
      clear h0
      go_wp2_with fail
      all_goals go_ret
      all_goals first | exact ⟨rfl, rfl⟩ | exact ⟨by simp; omega, rfl⟩
    · have hv : decide (48 ≤ r ∧ r ≤ 57 ∨ r = 45) = true := decide_eq_true (by omega)
      have a1 : ¬ (48 : Int) ≤ r := by omega
      have a2 : r ≤ 57 := by omega
      subst h
      clear a1 a2
      rw [hv]
      clear hv
      go_enter Tryd.func10, Tryd.ntmps10
      go_wp2_with fail
      refine h0.mono ?_
      rintro e wz ⟨rfl, rfl⟩
      clear h0
      go_wp2_with fail
      all_goals go_ret
      all_goals first | exact ⟨rfl, rfl⟩ | exact ⟨by simp; omega, rfl⟩
    · have hv : decide (48 ≤ r ∧ r ≤ 57 ∨ r = 45) = false := decide_eq_false (by omega)
      have a1 : ¬ (48 : Int) ≤ r := by omega
      have a2 : r ≤ 57 := by omega
      have a3 : (r == 45) = false := beq_eq_false_iff_ne.mpr (by omega)
      clear h
      rw [hv]
      clear hv
      go_enter Tryd.func10, Tryd.ntmps10
      go_wp2_with fail
      refine h0.mono ?_
      rintro e wz ⟨rfl, rfl⟩
      clear h0
      go_wp2_with fail
      all_goals go_ret
      all_goals first | exact ⟨rfl, rfl⟩ | exact ⟨by simp; omega, rfl⟩
    · have hv : decide (48 ≤ r ∧ r ≤ 57 ∨ r = 45) = true := decide_eq_true (by omega)
      have a1 : (48 : Int) ≤ r := by omega
      have a2 : r ≤ 57 := by omega
      have a3 : (r == 45) = false := beq_eq_false_iff_ne.mpr (by omega)
      clear h
      rw [hv]
      clear hv
      go_enter Tryd.func10, Tryd.ntmps10
      go_wp2_with fail
      refine h0.mono ?_
      rintro e wz ⟨rfl, rfl⟩
      clear h0
      go_wp2_with fail
      all_goals go_ret
      all_goals first | exact ⟨rfl, rfl⟩ | exact ⟨by simp; omega, rfl⟩
    · have hv : decide (48 ≤ r ∧ r ≤ 57 ∨ r = 45) = false := decide_eq_false (by omega)
      have a1 : (48 : Int) ≤ r := by omega
      have a2 : ¬ r ≤ 57 := by omega
      have a3 : (r == 45) = false := beq_eq_false_iff_ne.mpr (by omega)
      clear h
      rw [hv]
      clear hv
      go_enter Tryd.func10, Tryd.ntmps10
      go_wp2_with fail
      refine h0.mono ?_
      rintro e wz ⟨rfl, rfl⟩
      clear h0
      go_wp2_with fail
      all_goals go_ret
      all_goals first | exact ⟨rfl, rfl⟩ | exact ⟨by simp; omega, rfl⟩
theorem ba_mk (s : ByteArray) : (⟨s.data.toList.toArray⟩ : ByteArray) = s := by
  cases s with
  | mk d => simp
/-- one rune decoded -/
def DrP (s : ByteArray) (w : World) (e : Ending) (w' : World) : Prop := (∃ (r : Int) (k : Nat), e = .returned (.tuple #[.int .i32 r, .int .i64 (k : Int)]) ∧
    ((s.data.toList = [] ∧ r = 65533 ∧ k = 0) ∨ (s.data.toList ≠ [] ∧ r = ((Lib.decodeL s.data.toList).1 : Int) ∧ k = (Lib.decodeL s.data.toList).2 ∧ 1 ≤ k ∧ k ≤ s.size))) ∧ Below w.heap.size w w'
theorem dr_any (s : ByteArray) (w : World) (h : TL w) : Calls Tryd.prog 17 #[.string s] w (DrP s w) := by
  refine (Tryd.utf8_DecodeRuneInString s w h.2).mono ?_
  rintro e w' ⟨rfl, hb⟩
  refine ⟨⟨_, _, rfl, ?_⟩, hb⟩
  by_cases h0 : s.size = 0
  · left
    have hl : s.data.toList = [] := List.eq_nil_of_length_eq_zero (by rw [← ba_size]; exact h0)
    unfold Lib.decodeGo
    rw [if_pos h0]
    exact ⟨hl, rfl, rfl⟩
  · right
    have hl : s.data.toList ≠ [] := fun e => h0 (by rw [ba_size, e]; rfl)
    have he : Lib.decodeGo s = Lib.decodeL s.data.toList := by
      unfold Lib.decodeGo
      rw [if_neg h0]
      unfold Lib.decodeL
      rw [ba_mk]
    rw [he]
    refine ⟨hl, rfl, rfl, Lib.decodeL_width _, ?_⟩
    rw [ba_size]
    exact Lib.decodeL_le _ hl
theorem ext_drop (s : ByteArray) (k : Nat) : (s.extract k s.size).data.toList = s.data.toList.drop k := by
  rw [Lib.extract_data]
  apply List.take_of_length_le
  rw [List.length_drop, ← ba_size]
  exact Nat.le_refl _
set_option maxRecDepth 100000 in
set_option maxHeartbeats 4000000 in
theorem wsi_any (s : ByteArray) (w : World) (hs : (s.size : Int) ≤ 1048576) (h : TL w) :
    Calls Tryd.prog 9 #[.string s] w fun e w' => e = .returned (.bool (wsi s.data.toList)) ∧ Below w.heap.size w w' := by
  have H := Lib.hid h
  clear h
  go_enter Tryd.func9, Tryd.ntmps9
  go_wp2_with fail
  refine (dr_any s w H.out).mono ?_
  rintro e w1 ⟨⟨r, k, rfl, hr⟩, hb⟩
  have HB := Lib.hid hb
  clear hb
  rcases hr with ⟨hl, rfl, rfl⟩ | ⟨hl, hr, hk, hk1, hk2⟩
  · have HV : Hid (wsi s.data.toList = false) := Lib.hid (by rw [hl]; rfl)
    clear hl
    go_wp2_with fail
    all_goals go_ret
    all_goals exact ⟨by rw [HV.out]; rfl, HB.out⟩
  by_cases e1 : r = 65533
  · by_cases e2 : k ≤ 1
    · have HV : Hid (wsi s.data.toList = false) := Lib.hid (by
        unfold wsi
        rw [decide_eq_false (fun h => h.2 ⟨by omega, by omega⟩)]
        rfl)
      have e3 : (k : Int) ≤ 1 := by omega
      clear hl hr hk
      subst e1
      go_wp2_with fail
      all_goals go_ret
      all_goals exact ⟨by rw [HV.out]; rfl, HB.out⟩
    · have HV : Hid (wsi s.data.toList = true) := Lib.hid (by
        unfold wsi
        rw [decide_eq_true ⟨hl, fun h => e2 (by omega)⟩, ← hr, e1]
        rfl)
      have e3 : ¬ (k : Int) ≤ 1 := by omega
      clear hl hr hk
      subst e1
      go_wp2_with fail
      refine (ns_any 65533 w1).mono ?_
      rintro e wz ⟨rfl, rfl⟩
      rw [show ns 65533 = true from by decide]
      go_wp2_with fail
      all_goals go_ret
      all_goals exact ⟨by rw [HV.out]; rfl, HB.out⟩
  have hd : decide (s.data.toList ≠ [] ∧ ¬ ((Lib.decodeL s.data.toList).1 = 65533 ∧ (Lib.decodeL s.data.toList).2 ≤ 1)) = true := decide_eq_true ⟨hl, fun h => e1 (by omega)⟩
  have hw : wsi s.data.toList = (ns r || (decide (r = 45) && st2 (s.extract k s.size).data.toList)) := by
    unfold wsi
    rw [hd, ← hr, ext_drop, ← hk, Bool.true_and]
    congr 2
    simp only [decide_eq_decide]
    omega
  have HW := Lib.hid hw
  clear hw hd hl hr hk
  have e1b : (r == 65533) = false := beq_eq_false_iff_ne.mpr e1
  go_wp2_with fail
  refine (ns_any r w1).mono ?_
  rintro e wz ⟨rfl, rfl⟩
  cases hn : ns r with
  | true =>
    have HV : Hid (wsi s.data.toList = true) := Lib.hid (by rw [HW.out, hn]; rfl)
    clear HW hn
    go_wp2_with fail
    all_goals go_ret
    all_goals exact ⟨by rw [HV.out]; rfl, HB.out⟩
  | false =>
    by_cases e4 : r = 45
    case neg =>
      have HV : Hid (wsi s.data.toList = false) := Lib.hid (by rw [HW.out, hn, decide_eq_false e4]; rfl)
      have e4b : (r == 45) = false := beq_eq_false_iff_ne.mpr e4
      clear HW hn
      go_wp2_with fail
      all_goals go_ret
      all_goals exact ⟨by rw [HV.out]; rfl, HB.out⟩
    subst e4
    have HW2 : Hid (wsi s.data.toList = st2 (s.extract k s.size).data.toList) := Lib.hid (by rw [HW.out, hn]; rfl)
    clear HW hn e1 e1b
    have k0 : (0 : Int) ≤ k := by omega
    have k1 : (k : Int) ≤ s.size := by omega
    have H1 := Lib.hid (H.out.keep HB.out)
    clear H
    go_wp2_with fail
    generalize s.extract k s.size = s2 at *
    refine (dr_any s2 w1 H1.out).mono ?_
    rintro e w2 ⟨⟨r2, q, rfl, hr⟩, hb⟩
    have HB2 := Lib.hid (HB.out.trans (hb.mono HB.out.size))
    clear hb HB k0 k1 hk1 hk2 H1
    rcases hr with ⟨hl, rfl, rfl⟩ | ⟨hl, hr, hk, hq1, hq2⟩
    · have HV : Hid (wsi s.data.toList = false) := Lib.hid (by rw [HW2.out, hl]; rfl)
      clear hl HW2
      go_wp2_with fail
      all_goals go_ret
      all_goals exact ⟨by rw [HV.out]; rfl, HB2.out⟩
    by_cases e2 : r2 = 65533 ∧ q ≤ 1
    · have HV : Hid (wsi s.data.toList = false) := Lib.hid (by
        rw [HW2.out]
        unfold st2
        rw [decide_eq_false (fun h => h.2 ⟨by omega, by omega⟩)]
        rfl)
      obtain ⟨rfl, e2⟩ := e2
      have e3 : (q : Int) ≤ 1 := by omega
      clear hl hr hk HW2
      go_wp2_with fail
      all_goals go_ret
      all_goals exact ⟨by rw [HV.out]; rfl, HB2.out⟩
    have hd : decide (s2.data.toList ≠ [] ∧ ¬ ((Lib.decodeL s2.data.toList).1 = 65533 ∧ (Lib.decodeL s2.data.toList).2 ≤ 1)) = true := decide_eq_true ⟨hl, fun h => e2 (by omega)⟩
    have hw : wsi s.data.toList = (ns r2 || decide (r2 = 45)) := by
      rw [HW2.out]
      unfold st2
      rw [hd, ← hr, Bool.true_and]
      congr 1
      simp only [decide_eq_decide]
      omega
    have HW := Lib.hid hw
    clear hw hd hl hr hk HW2
    have hn2 := ns_any r2 w2
    have body : ∀ c : Bool, ns r2 = c → True := fun _ _ => trivial
    clear body
    obtain ⟨c, hc⟩ : ∃ c, ns r2 = c := ⟨_, rfl⟩
    rw [hc] at hn2 HW
    clear hc
    have HN := Lib.hid hn2
    clear hn2
    by_cases e5 : r2 = 45
    · subst e5
      clear e2
      have HV : Hid (wsi s.data.toList = true) := Lib.hid (by rw [HW.out]; simp)
      clear HW
      go_wp2_with fail
      refine HN.out.mono ?_
      rintro e wz ⟨rfl, rfl⟩
      cases c
      all_goals (go_wp2_with fail; all_goals go_ret; all_goals exact ⟨by rw [HV.out]; rfl, HB2.out⟩)
    · have e5b : (r2 == 45) = false := beq_eq_false_iff_ne.mpr e5
      have HV : Hid (wsi s.data.toList = c) := Lib.hid (by rw [HW.out, decide_eq_false e5, Bool.or_false])
      clear HW
      by_cases e6 : r2 = 65533
      · have e7 : ¬ (q : Int) ≤ 1 := fun h => e2 ⟨e6, by omega⟩
        subst e6
        clear e2 e5 e5b
        go_wp2_with fail
        refine HN.out.mono ?_
        rintro e wz ⟨rfl, rfl⟩
        cases c
        all_goals (go_wp2_with fail; all_goals go_ret; all_goals exact ⟨by rw [HV.out]; rfl, HB2.out⟩)
      · have e6b : (r2 == 65533) = false := beq_eq_false_iff_ne.mpr e6
        clear e2
        go_wp2_with fail
        refine HN.out.mono ?_
        rintro e wz ⟨rfl, rfl⟩
        cases c
        all_goals (go_wp2_with fail; all_goals go_ret; all_goals exact ⟨by rw [HV.out]; rfl, HB2.out⟩)
theorem Below.iter {B : Nat} {w w' : World} (h : Below B w w') (hB : B ≤ w'.heap.size) (s : ByteArray) (pos : Nat) : Below B w (w'.iter s pos) := h.alloc hB _
set_option maxRecDepth 100000 in
set_option maxHeartbeats 4000000 in
theorem ic_any (kw s : ByteArray) (b : Nat) (w : World) (hs : (s.size : Int) ≤ 1048576) (h : EV w) (hm : w.heap[b]? = some (kmO kw)) :
    Calls Tryd.prog 7 #[.string s, .map (some b)] w fun e w' => e = .returned (.bool (vci kw s)) ∧ Below w.heap.size w w' := by
  have hbl : b < w.heap.size := by
    rcases Nat.lt_or_ge b w.heap.size with hlt | hge
    · exact hlt
    · rw [Array.getElem?_eq_none hge] at hm; cases hm
  have H := Lib.hid h
  have HM := Lib.hid hm
  clear h hm
  go_enter Tryd.func7, Tryd.ntmps7
  go_wp2_with fail
  refine (low_any s w hs H.out.1).mono ?_
  rintro e w1 ⟨rfl, hb⟩
  have HB := Lib.hid hb
  have HE := Lib.hid (H.out.keep hb)
  have hr1 := km_look w1 b kw (lowB s) ((hb.block b hbl).trans HM.out)
  have hz : (lowB s).size ≤ maxLen := by have hl := low_len s; unfold maxLen; (try simp only at hs); omega
  obtain ⟨b1, hcm, hr2⟩ := HE.out.2.run (lowB s) hz
  have hc2 : w1.cell? ⟨0, 0, none⟩ = some (.map (some b1)) := hcm
  have HV : Hid (vci kw s = (!decide (lowB s = kw) && (!lookD (.map cssL) (lowB s) && (!((lowB s).toList == []) && (wsi s.data.toList && allN s.size s.data.toList))))) := Lib.hid rfl
  clear hb H HM hcm hz hbl
  obtain ⟨u, hu⟩ : ∃ u, lowB s = u := ⟨_, rfl⟩
  rw [hu] at hr1 hr2 HV ⊢
  clear hu
  obtain ⟨v1, hv1⟩ : ∃ v, decide (u = kw) = v := ⟨_, rfl⟩
  obtain ⟨v2, hv2⟩ : ∃ v, lookD (.map cssL) u = v := ⟨_, rfl⟩
  obtain ⟨v4, hv4⟩ : ∃ v, wsi s.data.toList = v := ⟨_, rfl⟩
  have hw := wsi_any s w1 hs HE.out.1
  rw [hv4] at HV hw
  rw [hv1] at hr1 HV
  rw [hv2] at hr2 HV
  clear hv1 hv2 hv4
  have HR1 := Lib.hid hr1
  have HR2 := Lib.hid hr2
  have HW := Lib.hid hw
  clear hr1 hr2 hw HE
  cases v1 with
  | true =>
    have HV2 : Hid (vci kw s = false) := Lib.hid (by rw [HV.out]; rfl)
    clear HV
    go_wp2_with (at_lookup; first | refine wpl_lookup _ rfl _ _ _ _ rfl _ _ _ rfl rfl HR1.out ?_ | refine wpl_lookup _ rfl _ _ _ _ rfl _ _ _ rfl rfl HR2.out ?_)
    all_goals go_ret
    all_goals exact ⟨by rw [HV2.out]; rfl, HB.out⟩
  | false =>
  cases v2 with
  | true =>
    have HV2 : Hid (vci kw s = false) := Lib.hid (by rw [HV.out]; rfl)
    clear HV
    go_wp2_with (at_lookup; first | refine wpl_lookup _ rfl _ _ _ _ rfl _ _ _ rfl rfl HR1.out ?_ | refine wpl_lookup _ rfl _ _ _ _ rfl _ _ _ rfl rfl HR2.out ?_)
    all_goals go_ret
    all_goals exact ⟨by rw [HV2.out]; rfl, HB.out⟩
  | false =>
  rcases Bool.eq_false_or_eq_true (u.toList == []) with g1 | g1
  · have HV2 : Hid (vci kw s = false) := Lib.hid (by rw [HV.out, g1]; rfl)
    clear HV
    go_wp2_with (at_lookup; first | refine wpl_lookup _ rfl _ _ _ _ rfl _ _ _ rfl rfl HR1.out ?_ | refine wpl_lookup _ rfl _ _ _ _ rfl _ _ _ rfl rfl HR2.out ?_)
    all_goals go_ret
    all_goals exact ⟨by rw [HV2.out]; rfl, HB.out⟩
  have HV3 : Hid (vci kw s = (v4 && allN s.size s.data.toList)) := Lib.hid (by rw [HV.out, g1]; rfl)
  clear HV
  go_wp2_with (at_lookup; first | refine wpl_lookup _ rfl _ _ _ _ rfl _ _ _ rfl rfl HR1.out ?_ | refine wpl_lookup _ rfl _ _ _ _ rfl _ _ _ rfl rfl HR2.out ?_)
  refine HW.out.mono ?_
  rintro e w2 ⟨rfl, hb⟩
  have HB2 := Lib.hid (HB.out.trans (hb.mono HB.out.size))
  clear hb HB HW HR1 HR2 g1 hc2
  cases v4 with
  | false =>
    have HV2 : Hid (vci kw s = false) := Lib.hid (by rw [HV3.out]; rfl)
    clear HV3
    go_wp2_with fail
    all_goals go_ret
    all_goals exact ⟨by rw [HV2.out]; rfl, HB2.out⟩
  | true =>
  have HV4 : Hid (vci kw s = allN s.size s.data.toList) := Lib.hid (by rw [HV3.out]; rfl)
  clear HV3
  go_wp2_with fail
  go_loopw [7] (fun _ wr => ∃ pos : Nat, pos ≤ s.size ∧ wr = w2.iter s pos ∧ Hid (vci kw s = allN s.size (s.data.toList.drop pos))) (fun _ wr => s.size - (match wr.heap[w2.heap.size]? with | some (.stringIter _ p) => p | _ => 0))
  case atStart => exact ⟨0, Nat.zero_le _, rfl, Lib.hid (by rw [HV4.out]; rfl)⟩
  case round =>
    clear HV4
    obtain ⟨pos, hpos, rfl, HP⟩ := hrel
    have HBI : Hid (∀ p, Below w.heap.size w (w2.iter s p)) := Lib.hid fun p => Below.iter HB2.out HB2.out.size s p
    by_cases hlt : pos < s.size
    · have hnx : ∀ ty, (Instr.next (.pointer (some ⟨w2.heap.size, 0, none⟩)) true ty).run Tryd.prog (w2.iter s pos) = _ := fun ty => run_next_any w2 s pos ty hlt
      have hdl := Lib.decodeL_drop s pos
      have hne : s.data.toList.drop pos ≠ [] := fun e => by
        have := congrArg List.length e
        rw [List.length_drop, ← ba_size] at this
        simp at this
        omega
      have hle := Lib.decodeL_le _ hne
      have hge := Lib.decodeL_width (s.data.toList.drop pos)
      rw [List.length_drop, ← ba_size, hdl] at hle
      rw [hdl] at hge
      have hst : allN s.size (s.data.toList.drop pos) = (nc ((Utf8.decode s pos).1 : Int) && allN s.size (s.data.toList.drop (pos + (Utf8.decode s pos).2))) := by
        obtain ⟨m, hm⟩ : ∃ m, s.size = m + 1 := ⟨s.size - 1, by omega⟩
        rw [hm]
        conv => lhs; unfold allN
        rw [if_neg hne, hdl, List.drop_drop, allN_fuel m (m + 1) _ (by rw [List.length_drop, ← ba_size]; omega) (by rw [List.length_drop, ← ba_size]; omega)]
      rw [← HP.out] at hst
      generalize (Utf8.decode s pos).1 = r at *
      generalize (Utf8.decode s pos).2 = k at *
      have HST := Lib.hid hst
      clear hst hdl hne HP
      go_wp2_with fail
      refine (nc_any (r : Int) _).mono ?_
      rintro e wz ⟨rfl, rfl⟩
      cases hc : nc (r : Int) with
      | false =>
        have HV2 : Hid (vci kw s = false) := Lib.hid (by rw [HST.out, hc]; rfl)
        clear HST hc
        go_wp2_with fail
        all_goals go_ret
        all_goals exact ⟨by rw [HV2.out]; rfl, HBI.out _⟩
      | true =>
        have HV2 : Hid (vci kw s = allN s.size (s.data.toList.drop (pos + k))) := Lib.hid (by rw [HST.out, hc]; rfl)
        clear HST hc
        go_wp2_with fail
        exact ⟨⟨pos + k, by omega, rfl, HV2⟩, by rw [World.iter_heap, World.iter_heap]; show s.size - (pos + k) < s.size - pos; omega⟩
    · obtain rfl : pos = s.size := by omega
      have hnx : ∀ ty, (Instr.next (.pointer (some ⟨w2.heap.size, 0, none⟩)) true ty).run Tryd.prog (w2.iter s s.size) = _ := fun ty => run_next_end w2 s s.size ty hlt
      have HV2 : Hid (vci kw s = true) := Lib.hid (by
        rw [HP.out, List.drop_of_length_le (by rw [← ba_size]; exact Nat.le_refl _)]
        cases s.size <;> rfl)
      clear HP
      go_wp2_with fail
      all_goals go_ret
      all_goals exact ⟨by rw [HV2.out]; rfl, HBI.out _⟩
set_option maxRecDepth 100000 in
set_option maxHeartbeats 1000000 in
theorem zic_any (kw s : ByteArray) (b : Nat) (w : World) (hs : (s.size : Int) ≤ 1048576) (h : EV w) (hm : w.heap[b]? = some (kmO kw)) :
    Calls Tryd.prog 5 #[.string s, .map (some b)] w fun e w' => e = .returned (.bool (vci kw s)) ∧ Below w.heap.size w w' := by
  have hc := ic_any kw s b w hs h hm
  clear h hm
  go_enter Tryd.func5, Tryd.ntmps5
  go_wp2_with fail
  refine hc.mono ?_
  rintro e w' ⟨rfl, hb⟩
  have HB := Lib.hid hb
  clear hb hc
  go_wp2_with fail
  go_ret
  exact ⟨rfl, HB.out⟩
/-- a text whose first k bytes are swapped, in a block of its own -/
structure SW (w0 : World) (s : ByteArray) (k : Nat) (w : World) : Prop where
  bl : Below w0.heap.size w0 w
  done : ∀ j, j < k → w.cell? ⟨w0.heap.size, j, none⟩ = some (.int .u8 (((s.data.toList.map swB).getD j 0).toNat : Int))
  rest : ∀ j, k ≤ j → j < s.size → w.cell? ⟨w0.heap.size, j, none⟩ = some (.int .u8 ((s.data.toList.getD j 0).toNat : Int))
  fr : ∀ j, j < s.size → w.frozen? ⟨w0.heap.size, j, none⟩ = false
theorem SW.next {w0 w : World} {s : ByteArray} {k : Nat} (h : SW w0 s k w) (hk : k < s.size) (v : Value) (hv : v = .int .u8 (((s.data.toList.map swB).getD k 0).toNat : Int)) : SW w0 s (k + 1) (w.setCell ⟨w0.heap.size, k, none⟩ v) := by
  subst hv
  refine ⟨h.bl.setCell (Nat.le_refl _) _, fun j hj => ?_, fun j hj hj2 => set_far (by omega) (h.rest j (by omega) hj2), fun j hj => by simp only [World.frozen?_setCell]; exact h.fr j hj⟩
  by_cases e : j = k
  · subst e; exact set_same (by rw [h.rest j (Nat.le_refl _) hk]; rfl)
  · exact set_far (by omega) (h.done j (by omega))
theorem SW.skip {w0 w : World} {s : ByteArray} {k : Nat} (h : SW w0 s k w) (hk : k < s.size) (hv : (s.data.toList.map swB).getD k 0 = s.data.toList.getD k 0) : SW w0 s (k + 1) w := by
  refine ⟨h.bl, fun j hj => ?_, fun j hj hj2 => h.rest j (by omega) hj2, h.fr⟩
  by_cases e : j = k
  · subst e; rw [hv]; exact h.rest j (Nat.le_refl _) hk
  · exact h.done j (by omega)
theorem SW.start (w : World) (s : ByteArray) : SW w s 0 (Lib.bytesWorld w 5 s) := by
  refine ⟨⟨rfl, ?_, rfl, ?_, fun i hi => Lib.bytesWorld_at_old w _ s i hi⟩, fun j hj => absurd hj (by omega), fun j _ hj => Lib.bytesWorld_cell w _ s j hj, fun j hj => ?_⟩
  · rfl
  · rw [Lib.bytesWorld_size]; omega
  · have hz : s.size ≤ (Lib.bytesCells w 5 s).size := by simp [Lib.bytesCells]
    simp only [World.frozen?, Lib.bytesWorld_at_new]
    simp
    intro h
    omega
set_option maxRecDepth 100000 in
set_option maxHeartbeats 4000000 in
theorem sw_any (s : ByteArray) (w : World) (hs : (s.size : Int) ≤ 1048576) : Calls Tryd.prog 6 #[.string s] w fun e w' => e = .returned (.string (swS s)) ∧ Below w.heap.size w w' := by
  have hcv : ∀ W : World, (convert 9 26 (.string s)).run Tryd.prog W = .ok (.slice (some ⟨W.heap.size, 0, none⟩) s.size (grownCap W s.size 0 5)) (Lib.bytesWorld W 5 s) := fun W => Lib.run_convert_string_bytes W _ _ 5 s Tryd.underlying9 Tryd.underlying26 Tryd.underlying5
  have h0 := SW.start w s
  go_enter Tryd.func6, Tryd.ntmps6
  go_wp2_with fail
  generalize Lib.bytesWorld w 5 s = w1 at *
  generalize grownCap w s.size 0 5 = cap at *
  have H0 := Lib.hid h0
  clear h0 hcv
  go_loopw [4] (fun i wr => ∃ k : Nat, k ≤ s.size ∧ i = .int .i64 k ∧ Hid (SW w s k wr)) (fun i _ => s.size - (intOf i).toNat)
  case atStart => exact ⟨0, Nat.zero_le _, rfl, H0⟩
  case round =>
    clear H0
    obtain ⟨k, hk, rfl, HR⟩ := hrel
    by_cases hlt : k < s.size
    · have q0 : (0 : Int) ≤ k := by omega
      have q1 : (k : Int) < s.size := by omega
      have c0 := HR.out.rest k (Nat.le_refl _) hlt
      have f0 := HR.out.fr k hlt
      have hg : (s.data.toList.map swB).getD k 0 = swB (s.data.toList.getD k 0) := by
        have hl : k < s.data.toList.length := by rw [← ba_size]; exact hlt
        rw [List.getD_eq_getElem?_getD, List.getD_eq_getElem?_getD, List.getElem?_map, List.getElem?_eq_getElem hl]
        rfl
      obtain ⟨x, hx⟩ : ∃ x, s.data.toList.getD k 0 = x := ⟨_, rfl⟩
      rw [hx] at c0 hg
      have HX := Lib.hid hx
      clear hx
      have hx256 := x.toNat_lt
      by_cases u0 : 65 ≤ x.toNat ∧ x.toNat ≤ 90
      · have a1 : (65 : Int) ≤ x.toNat := by omega
        have a2 : (x.toNat : Int) ≤ 90 := by omega
        have HN := Lib.hid (HR.out.next hlt (.int .u8 ((x.toNat : Int) + 32)) (by rw [hg, swB_up u0]; rfl))
        clear u0 HR hg
        go_wp2_with fail
        exact ⟨⟨k + 1, by omega, by go_num, HN⟩, by simp [intOf]; omega⟩
      · by_cases u1 : 97 ≤ x.toNat ∧ x.toNat ≤ 122
        · have a1 : (65 : Int) ≤ x.toNat := by omega
          have a2 : ¬ (x.toNat : Int) ≤ 90 := by omega
          have a3 : (97 : Int) ≤ x.toNat := by omega
          have a4 : (x.toNat : Int) ≤ 122 := by omega
          have HN := Lib.hid (HR.out.next hlt (.int .u8 ((x.toNat : Int) - 32)) (by rw [hg, swB_lo u0 u1]; congr 1; omega))
          clear u0 u1 HR hg
          go_wp2_with fail
          exact ⟨⟨k + 1, by omega, by go_num, HN⟩, by simp [intOf]; omega⟩
        · have HN := Lib.hid (HR.out.skip hlt (by rw [hg, swB_no u0 u1, HX.out]))
          have hc : x.toNat < 65 ∨ (91 ≤ x.toNat ∧ x.toNat ≤ 96) ∨ 123 ≤ x.toNat := by omega
          clear u0 u1 HR hg
          rcases hc with h | h | h
          · have a1 : ¬ (65 : Int) ≤ x.toNat := by omega
            have a3 : ¬ (97 : Int) ≤ x.toNat := by omega
            go_wp2_with fail
            exact ⟨⟨k + 1, by omega, by go_num, HN⟩, by simp [intOf]; omega⟩
          · have a1 : (65 : Int) ≤ x.toNat := by omega
            have a2 : ¬ (x.toNat : Int) ≤ 90 := by omega
            have a3 : ¬ (97 : Int) ≤ x.toNat := by omega
            go_wp2_with fail
            exact ⟨⟨k + 1, by omega, by go_num, HN⟩, by simp [intOf]; omega⟩
          · have a1 : (65 : Int) ≤ x.toNat := by omega
            have a2 : ¬ (x.toNat : Int) ≤ 90 := by omega
            have a3 : (97 : Int) ≤ x.toNat := by omega
            have a4 : ¬ (x.toNat : Int) ≤ 122 := by omega
            go_wp2_with fail
            exact ⟨⟨k + 1, by omega, by go_num, HN⟩, by simp [intOf]; omega⟩
    · obtain rfl : k = s.size := by omega
      have hln : (s.data.toList.map swB).length = s.size := by rw [List.length_map, ← ba_size]
      have hbk := run_convert_bytes_back (P := Tryd.prog) wr 26 9 5 ⟨w.heap.size, 0, none⟩ cap (s.data.toList.map swB) Tryd.underlying26 Tryd.underlying5 Tryd.underlying9 (fun j hj => by
        rw [add_none, Nat.zero_add, HR.out.done j (by rw [← hln]; exact hj), List.getD_eq_getElem?_getD, List.getElem?_eq_getElem hj]
        rfl)
      rw [hln] at hbk
      go_wp2_with fail
      go_ret
      exact ⟨rfl, HR.out.bl⟩
end Go.Proofs.YtgicookbgfodbaaDoor.Sy
