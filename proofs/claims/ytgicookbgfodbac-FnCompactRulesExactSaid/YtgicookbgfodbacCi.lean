/-
  ZZnewTracker4: the tracker of four corners.
-/
import Derived.Test.YtgicookbgfodbacCh
namespace Go.Proofs.Ytgicookbgfodbac.Co
open Go.ChangeShapes Go.WideShapes Go.ChangeAt Go.RowKit Rg Quad
set_option linter.unusedVariables false
set_option linter.unusedSimpArgs false
set_option maxRecDepth 100000 in
set_option maxHeartbeats 1000000 in
theorem nt_g (c0 c1 c2 c3 Q R : List Value) (imp : Bool) (l0 : c0.length = 18) (l1 : c1.length = 18) (l2 : c2.length = 18) (l3 : c3.length = 18)
    (hq : ∀ W, (Instr.build 46 #[(0, .agg c0.toArray), (1, .agg c1.toArray), (2, .agg c2.toArray), (3, .agg c3.toArray)]).run Try.prog W = .ok (.agg Q.toArray) W)
    (hr : ∀ W, (Instr.build 70 #[(0, .agg Q.toArray), (1, .bool imp)]).run Try.prog W = .ok (.agg R.toArray) W) (w : World) :
    Calls Try.prog 9 #[.agg c0.toArray, .agg c1.toArray, .agg c2.toArray, .agg c3.toArray, .bool imp] w fun e w' => ∃ t, e = .returned (.pointer (some ⟨t, 0, none⟩)) ∧ Bk w' t 70 R.toArray ∧ w.heap.size ≤ t ∧ Below w.heap.size w w' := by
  have HQ := Lib.hid hq
  have HR := Lib.hid hr
  clear hq hr
  have al : ∀ (W : World) (o : Obj), Below W.heap.size W (W.alloc o) := fun W o => (Below.refl _ _).alloc (Nat.le_refl _) _
  have r0 : ((((w.alloc (.cells c0.toArray 45)).alloc (.cells c1.toArray 45)).alloc (.cells c2.toArray 45)).alloc (.cells c3.toArray 45)).rangeAt w.heap.size 0 c0 := (rg_keep (al (((w.alloc (.cells c0.toArray 45)).alloc (.cells c1.toArray 45)).alloc (.cells c2.toArray 45)) (.cells c3.toArray 45)) (rg_keep (al ((w.alloc (.cells c0.toArray 45)).alloc (.cells c1.toArray 45)) (.cells c2.toArray 45)) (rg_keep (al (w.alloc (.cells c0.toArray 45)) (.cells c1.toArray 45)) (rg_new w c0.toArray 45))))
  have r1 : ((((w.alloc (.cells c0.toArray 45)).alloc (.cells c1.toArray 45)).alloc (.cells c2.toArray 45)).alloc (.cells c3.toArray 45)).rangeAt (w.alloc (.cells c0.toArray 45)).heap.size 0 c1 := (rg_keep (al (((w.alloc (.cells c0.toArray 45)).alloc (.cells c1.toArray 45)).alloc (.cells c2.toArray 45)) (.cells c3.toArray 45)) (rg_keep (al ((w.alloc (.cells c0.toArray 45)).alloc (.cells c1.toArray 45)) (.cells c2.toArray 45)) (rg_new (w.alloc (.cells c0.toArray 45)) c1.toArray 45)))
  rw [show (w.alloc (.cells c0.toArray 45)).heap.size = w.heap.size + 1 by simp] at r1
  have r2 : ((((w.alloc (.cells c0.toArray 45)).alloc (.cells c1.toArray 45)).alloc (.cells c2.toArray 45)).alloc (.cells c3.toArray 45)).rangeAt ((w.alloc (.cells c0.toArray 45)).alloc (.cells c1.toArray 45)).heap.size 0 c2 := (rg_keep (al (((w.alloc (.cells c0.toArray 45)).alloc (.cells c1.toArray 45)).alloc (.cells c2.toArray 45)) (.cells c3.toArray 45)) (rg_new ((w.alloc (.cells c0.toArray 45)).alloc (.cells c1.toArray 45)) c2.toArray 45))
  rw [show ((w.alloc (.cells c0.toArray 45)).alloc (.cells c1.toArray 45)).heap.size = w.heap.size + 1 + 1 by simp] at r2
  have r3 : ((((w.alloc (.cells c0.toArray 45)).alloc (.cells c1.toArray 45)).alloc (.cells c2.toArray 45)).alloc (.cells c3.toArray 45)).rangeAt (((w.alloc (.cells c0.toArray 45)).alloc (.cells c1.toArray 45)).alloc (.cells c2.toArray 45)).heap.size 0 c3 := (rg_new (((w.alloc (.cells c0.toArray 45)).alloc (.cells c1.toArray 45)).alloc (.cells c2.toArray 45)) c3.toArray 45)
  rw [show (((w.alloc (.cells c0.toArray 45)).alloc (.cells c1.toArray 45)).alloc (.cells c2.toArray 45)).heap.size = w.heap.size + 1 + 1 + 1 by simp] at r3
  have hb : Below w.heap.size w ((((w.alloc (.cells c0.toArray 45)).alloc (.cells c1.toArray 45)).alloc (.cells c2.toArray 45)).alloc (.cells c3.toArray 45)) := ((((Below.refl _ _).alloc (Nat.le_refl _) _).alloc (by simp) _).alloc (by simp; omega) _).alloc (by simp; omega) _
  have HB := Lib.hid hb
  have H0 := Lib.hid r0
  have H1 := Lib.hid r1
  have H2 := Lib.hid r2
  have H3 := Lib.hid r3
  have L0 := Lib.hid (show (Try.prog.info? 45).map (·.size) = some c0.length by rw [l0]; exact szCn)
  have L1 := Lib.hid (show (Try.prog.info? 45).map (·.size) = some c1.length by rw [l1]; exact szCn)
  have L2 := Lib.hid (show (Try.prog.info? 45).map (·.size) = some c2.length by rw [l2]; exact szCn)
  have L3 := Lib.hid (show (Try.prog.info? 45).map (·.size) = some c3.length by rw [l3]; exact szCn)
  obtain ⟨du, hu, hu2⟩ := tyCn
  have HU := Lib.hid hu
  clear hu r0 r1 r2 r3 hb al l0 l1 l2 l3
  go_enter Try.func9, Try.ntmps9
  go_upto_region 1 with fail
  generalize ((((w.alloc (.cells c0.toArray 45)).alloc (.cells c1.toArray 45)).alloc (.cells c2.toArray 45)).alloc (.cells c3.toArray 45)) = w4 at *
  generalize w.heap.size + 1 + 1 + 1 = g3 at *
  generalize w.heap.size + 1 + 1 = g2 at *
  generalize w.heap.size + 1 = g1 at *
  go_wp2_with (first | (refine wpList_load_mid rfl 45 _ rfl w.heap.size 0 rfl c0 du H0.out HU.out hu2 L0.out ?_) | (refine wpList_load_mid rfl 45 _ rfl g1 0 rfl c1 du H1.out HU.out hu2 L1.out ?_) | (refine wpList_load_mid rfl 45 _ rfl g2 0 rfl c2 du H2.out HU.out hu2 L2.out ?_) | (refine wpList_load_mid rfl 45 _ rfl g3 0 rfl c3 du H3.out HU.out hu2 L3.out ?_) | (refine wpl_build4 rfl 46 _ _ _ _ rfl (.agg c0.toArray) (.agg c1.toArray) (.agg c2.toArray) (.agg c3.toArray) _ rfl rfl rfl rfl (HQ.out _) ?_) | (refine wpl_build2 rfl 70 _ _ rfl (.agg Q.toArray) (.bool imp) _ rfl rfl (HR.out _) ?_))
  go_ret
  exact ⟨_, rfl, heap_alloc_new _ _, HB.out.size, HB.out.alloc HB.out.size _⟩
theorem nt_any (q1 q2 : Nat → Int) (ix : Nat → Nat) (sg imp : Bool) (w : World) : Calls Try.prog 9 #[.agg (cnR (q1 0) (q2 0) (ix 0) sg).toArray, .agg (cnR (q1 1) (q2 1) (ix 1) sg).toArray, .agg (cnR (q1 2) (q2 2) (ix 2) sg).toArray, .agg (cnR (q1 3) (q2 3) (ix 3) sg).toArray, .bool imp] w fun e w' => ∃ t, e = .returned (.pointer (some ⟨t, 0, none⟩)) ∧ Bk w' t 70 (trR q1 q2 ix sg imp).toArray ∧ w.heap.size ≤ t ∧ Below w.heap.size w w' :=
  nt_g _ _ _ _ (qdR q1 q2 ix sg) (trR q1 q2 ix sg imp) imp rfl rfl rfl rfl (bld46 q1 q2 ix sg) (bld70 q1 q2 ix sg imp) w
end Go.Proofs.Ytgicookbgfodbac.Co
