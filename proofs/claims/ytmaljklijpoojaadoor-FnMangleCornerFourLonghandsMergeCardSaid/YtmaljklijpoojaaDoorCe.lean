/-
  zzCheckList, zzCheckValue.
-/
import Derived.Test.YtmaljklijpoojaaDoorCd
namespace Go.Proofs.YtmaljklijpoojaaDoor.Co
open Go.ChangeShapes Go.WideShapes Go.ChangeAt Go.RowKit Rg Quad
set_option linter.unusedVariables false
set_option linter.unusedSimpArgs false
def TrueB (w : World) (e : Ending) (w' : World) : Prop := e = .returned (.bool true) ∧ Below w.heap.size w w'
set_option maxRecDepth 100000 in
set_option maxHeartbeats 8000000 in
theorem cl_any (g off n cap k : Nat) (X : Nat → TY) (q : Nat → Int) (mf : Bool) (w : World) (h : TR w g n X) (hn : off + k ≤ n) (hn2 : n ≤ 1000) (hk4 : k ≤ 4) (hX : ∀ i, i < k → X (off + i) = (q i, wsv mf k i)) (hq : ∀ i, i < 4 → 0 ≤ q i ∧ q i < 8) :
    Calls Tryd.prog 17 #[.slice (some ⟨g, 0, none⟩) n cap, .int .i64 (off : Int), .agg (a4 q).toArray, .int .i64 (k : Int), .bool mf] w (TrueB w) := by
  have H := Lib.hid h
  have HX := Lib.hid hX
  have HQ := Lib.hid hq
  have hr : (w.alloc (.cells (a4 q).toArray 22)).rangeAt w.heap.size 0 (a4 q) := rg_new w (a4 q).toArray 22
  have hb : Below w.heap.size w (w.alloc (.cells (a4 q).toArray 22)) := (Below.refl _ _).alloc (Nat.le_refl _) _
  obtain ⟨g7, hg⟩ : ∃ g, w.heap.size = g := ⟨_, rfl⟩
  rw [hg] at hr
  have hS0 := M4.of (w0 := w) hr (by simp) hb
  obtain ⟨du, hu, hu2⟩ := tyTok
  have HU := Lib.hid hu
  clear h hX hq hr hb hu
  unfold a4 at hS0
  have HS0 := Lib.hid hS0
  clear hS0
  unfold a4
  go_enter Tryd.func17, Tryd.ntmps17
  go_upto_block 0 with fail
  try rw [hg]
  generalize w.alloc (.cells #[.int .u8 (q 0), .int .u8 (q 1), .int .u8 (q 2), .int .u8 (q 3)] 22) = w1 at *
  go_wp2_with fail
  go_loopw [11] (fun iv wr => ∃ i : Nat, i ≤ k ∧ iv = .int .i64 i ∧ Hid (M4 q g7 w wr)) (fun iv _ => k - (intOf iv).toNat)
  case atStart => exact ⟨0, Nat.zero_le _, rfl, HS0⟩
  case round =>
    clear HS0
    obtain ⟨i, hi, rfl, HS⟩ := hrel
    by_cases hlt : i < k
    case neg =>
      obtain rfl : i = k := by omega
      go_wp2_with fail
      go_ret
      exact ⟨rfl, by first | exact HS.out.2.2.2.2.2 | (have := HS.out.2.2.2.2.2; rwa [hg] at this)⟩
    obtain ⟨p, hp⟩ : ∃ p, p = off + i := ⟨_, rfl⟩
    have q0 : (0 : Int) ≤ i := by omega
    have q1 : (i : Int) < k := by omega
    have hsum : (off : Int) + i = p := by omega
    have p0 : (0 : Int) ≤ p := by omega
    have p1 : (p : Int) < n := by omega
    have hx := HX.out i hlt
    rw [← hp] at hx
    have hrx := H.out.keep (by have := HS.out.2.2.2.2.2; exact this) p (by omega)
    rw [hx] at hrx
    obtain ⟨W, hW⟩ : ∃ W, wsv mf k i = W := ⟨_, rfl⟩
    rw [hW] at hrx
    have HRX := Lib.hid (show wr.rangeAt g (p * 7) [.pointer none, .string (tT (q i)), .int .i32 0, .int .u32 0, .int .u16 0, .int .u8 (tK (q i)), .int .u8 W] from hrx)
    have HW := Lib.hid hW
    clear hx hrx hp hW
    go_upto_region 5 with (first | (refine wpList_load_mid rfl 39 _ rfl g (p * 7) rfl _ du HRX.out HU.out hu2 szTok ?_))
    have hbA : Below wr.heap.size wr (wr.alloc (.cells (tyR (q i, W)).toArray 39)) := (Below.refl _ _).alloc (Nat.le_refl _) _
    have hrA : (wr.alloc (.cells (tyR (q i, W)).toArray 39)).rangeAt wr.heap.size 0 (tyR (q i, W)) := rg_new wr (tyR (q i, W)).toArray 39
    obtain ⟨gt, hgt⟩ : ∃ q, wr.heap.size = q := ⟨_, rfl⟩
    rw [hgt] at hrA
    obtain ⟨wA, hwA⟩ : ∃ w', wr.alloc (.cells (tyR (q i, W)).toArray 39) = w' := ⟨_, rfl⟩
    have hwA2 := hwA
    unfold tyR at hwA2
    rw [hwA] at hbA hrA
    rw [hwA2, hgt]
    obtain ⟨a0, a1, a2, a3, a4, a5, a6⟩ := cells7 hrA
    simp only [Nat.zero_add] at a0 a1 a2 a3 a4 a5 a6
    have HSA := Lib.hid (HS.out.keep hbA)
    obtain ⟨b0, b1, b2, b3, s0, -⟩ := HSA.out
    have HA6 := Lib.hid a6
    clear hrA hbA hwA hwA2 hgt HS HRX s0 hsum p0 p1
    have hcase : i = 0 ∨ i = 1 ∨ i = 2 ∨ i = 3 := by omega
    rcases hcase with rfl | rfl | rfl | rfl
    · as_aux_lemma =>
      go_still_tail 4, (by kernel_rfl)
      change wpList _ _ _ _ _ _
      go_wp2_with fail
      refine (st_any (q 0, W) (q 0) _ (HQ.out 0 (by omega)).1 (by have := (HQ.out 0 (by omega)).2; omega)).mono ?_
      rintro e w3 ⟨rfl, hb⟩
      rw [sm_code (x := (q 0, W)) (HQ.out 0 (by omega)) (HQ.out 0 (by omega)), decide_eq_true rfl]
      have HS3 := Lib.hid ((HSA.out.keep (below_drewN (Below.refl _ _) 1)).keep hb)
      have c6 := later hb (show (wA.drewN 1).cell? _ = _ from HA6.out)
      clear hb a0 a1 a2 a3 a4 a5 a6 b0 b1 b2 b3 HA6 HSA
      by_cases hlast : 0 + 1 < k
      · have q2 : (0 : Int) + 1 < k := by omega
        have q2' : (1 : Int) < k := by omega
        cases mf
        · obtain rfl : W = 3 := by rw [← HW.out]; unfold wsv; simp [hlast]
          clear HW
          go_wp2_with fail
          exact ⟨⟨1, by omega, rfl, HS3⟩, by simp [intOf]; omega⟩
        · obtain rfl : W = 2 := by rw [← HW.out]; unfold wsv; simp [hlast]
          clear HW
          go_wp2_with fail
          exact ⟨⟨1, by omega, rfl, HS3⟩, by simp [intOf]; omega⟩
      · have q2 : ¬ (0 : Int) + 1 < k := by omega
        have q2' : ¬ (1 : Int) < k := by omega
        cases mf
        · obtain rfl : W = 1 := by rw [← HW.out]; unfold wsv; simp [hlast]
          clear HW
          go_wp2_with fail
          exact ⟨⟨1, by omega, rfl, HS3⟩, by simp [intOf]; omega⟩
        · obtain rfl : W = 0 := by rw [← HW.out]; unfold wsv; simp [hlast]
          clear HW
          go_wp2_with fail
          exact ⟨⟨1, by omega, rfl, HS3⟩, by simp [intOf]; omega⟩
    · as_aux_lemma =>
      go_still_tail 4, (by kernel_rfl)
      change wpList _ _ _ _ _ _
      go_wp2_with fail
      refine (st_any (q 1, W) (q 1) _ (HQ.out 1 (by omega)).1 (by have := (HQ.out 1 (by omega)).2; omega)).mono ?_
      rintro e w3 ⟨rfl, hb⟩
      rw [sm_code (x := (q 1, W)) (HQ.out 1 (by omega)) (HQ.out 1 (by omega)), decide_eq_true rfl]
      have HS3 := Lib.hid ((HSA.out.keep (below_drewN (Below.refl _ _) 1)).keep hb)
      have c6 := later hb (show (wA.drewN 1).cell? _ = _ from HA6.out)
      clear hb a0 a1 a2 a3 a4 a5 a6 b0 b1 b2 b3 HA6 HSA
      by_cases hlast : 1 + 1 < k
      · have q2 : (1 : Int) + 1 < k := by omega
        have q2' : (2 : Int) < k := by omega
        cases mf
        · obtain rfl : W = 3 := by rw [← HW.out]; unfold wsv; simp [hlast]
          clear HW
          go_wp2_with fail
          exact ⟨⟨2, by omega, rfl, HS3⟩, by simp [intOf]; omega⟩
        · obtain rfl : W = 3 := by rw [← HW.out]; unfold wsv; simp [hlast]
          clear HW
          go_wp2_with fail
          exact ⟨⟨2, by omega, rfl, HS3⟩, by simp [intOf]; omega⟩
      · have q2 : ¬ (1 : Int) + 1 < k := by omega
        have q2' : ¬ (2 : Int) < k := by omega
        cases mf
        · obtain rfl : W = 1 := by rw [← HW.out]; unfold wsv; simp [hlast]
          clear HW
          go_wp2_with fail
          exact ⟨⟨2, by omega, rfl, HS3⟩, by simp [intOf]; omega⟩
        · obtain rfl : W = 1 := by rw [← HW.out]; unfold wsv; simp [hlast]
          clear HW
          go_wp2_with fail
          exact ⟨⟨2, by omega, rfl, HS3⟩, by simp [intOf]; omega⟩
    · as_aux_lemma =>
      go_still_tail 4, (by kernel_rfl)
      change wpList _ _ _ _ _ _
      go_wp2_with fail
      refine (st_any (q 2, W) (q 2) _ (HQ.out 2 (by omega)).1 (by have := (HQ.out 2 (by omega)).2; omega)).mono ?_
      rintro e w3 ⟨rfl, hb⟩
      rw [sm_code (x := (q 2, W)) (HQ.out 2 (by omega)) (HQ.out 2 (by omega)), decide_eq_true rfl]
      have HS3 := Lib.hid ((HSA.out.keep (below_drewN (Below.refl _ _) 1)).keep hb)
      have c6 := later hb (show (wA.drewN 1).cell? _ = _ from HA6.out)
      clear hb a0 a1 a2 a3 a4 a5 a6 b0 b1 b2 b3 HA6 HSA
      by_cases hlast : 2 + 1 < k
      · have q2 : (2 : Int) + 1 < k := by omega
        have q2' : (3 : Int) < k := by omega
        cases mf
        · obtain rfl : W = 3 := by rw [← HW.out]; unfold wsv; simp [hlast]
          clear HW
          go_wp2_with fail
          exact ⟨⟨3, by omega, rfl, HS3⟩, by simp [intOf]; omega⟩
        · obtain rfl : W = 3 := by rw [← HW.out]; unfold wsv; simp [hlast]
          clear HW
          go_wp2_with fail
          exact ⟨⟨3, by omega, rfl, HS3⟩, by simp [intOf]; omega⟩
      · have q2 : ¬ (2 : Int) + 1 < k := by omega
        have q2' : ¬ (3 : Int) < k := by omega
        cases mf
        · obtain rfl : W = 1 := by rw [← HW.out]; unfold wsv; simp [hlast]
          clear HW
          go_wp2_with fail
          exact ⟨⟨3, by omega, rfl, HS3⟩, by simp [intOf]; omega⟩
        · obtain rfl : W = 1 := by rw [← HW.out]; unfold wsv; simp [hlast]
          clear HW
          go_wp2_with fail
          exact ⟨⟨3, by omega, rfl, HS3⟩, by simp [intOf]; omega⟩
    · as_aux_lemma =>
      go_still_tail 4, (by kernel_rfl)
      change wpList _ _ _ _ _ _
      go_wp2_with fail
      refine (st_any (q 3, W) (q 3) _ (HQ.out 3 (by omega)).1 (by have := (HQ.out 3 (by omega)).2; omega)).mono ?_
      rintro e w3 ⟨rfl, hb⟩
      rw [sm_code (x := (q 3, W)) (HQ.out 3 (by omega)) (HQ.out 3 (by omega)), decide_eq_true rfl]
      have HS3 := Lib.hid ((HSA.out.keep (below_drewN (Below.refl _ _) 1)).keep hb)
      have c6 := later hb (show (wA.drewN 1).cell? _ = _ from HA6.out)
      clear hb a0 a1 a2 a3 a4 a5 a6 b0 b1 b2 b3 HA6 HSA
      have hlast : ¬ 3 + 1 < k := by omega
      · have q2 : ¬ (3 : Int) + 1 < k := by omega
        have q2' : ¬ (4 : Int) < k := by omega
        cases mf
        · obtain rfl : W = 1 := by rw [← HW.out]; unfold wsv; simp [hlast]
          clear HW
          go_wp2_with fail
          exact ⟨⟨4, by omega, rfl, HS3⟩, by simp [intOf]; omega⟩
        · obtain rfl : W = 1 := by rw [← HW.out]; unfold wsv; simp [hlast]
          clear HW
          go_wp2_with fail
          exact ⟨⟨4, by omega, rfl, HS3⟩, by simp [intOf]; omega⟩
end Go.Proofs.YtmaljklijpoojaaDoor.Co
