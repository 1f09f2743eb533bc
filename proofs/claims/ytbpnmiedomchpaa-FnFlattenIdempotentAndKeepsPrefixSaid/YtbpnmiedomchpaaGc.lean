/-
  The doors to the flattening.
-/
import Derived.Test.YtbpnmiedomchpaaGb
namespace Go.Proofs.Ytbpnmiedomchpaa.Fg
open Go.ChangeShapes Go.WideShapes Go.ChangeAt Go.RowKit Rg
set_option linter.unusedVariables false
set_option linter.unusedSimpArgs false
set_option maxRecDepth 100000 in
set_option maxHeartbeats 4000000 in
theorem zfl_any (pv lv v : Value) (w : World) (Post : World → Value → World → Prop) (hv : v.oneCell' = true) (h : ∀ w1, Below w.heap.size w w1 → w1.heap.size = w.heap.size + 1 → Calls Try.prog 18 #[pv, lv, .agg #[v]] w1 (fun e w' => ∃ r, e = .returned r ∧ Post w1 r w')) :
    Calls Try.prog 10 #[pv, lv, .agg #[v]] w (fun e w' => ∃ w1 r, e = .returned r ∧ Below w.heap.size w w1 ∧ w1.heap.size = w.heap.size + 1 ∧ Post w1 r w') := by
  obtain ⟨tX, hXx, hX2⟩ := tyCpl
  have HH := Lib.hid h
  clear h
  go_enter Try.func10, Try.ntmps10
  go_upto_region 1 with fail
  have hb : Below w.heap.size w (w.alloc (.cells #[v] 40)) := (Below.refl _ _).alloc (Nat.le_refl _) _
  have hr := rg_new w #[v] 40
  have hs : (w.alloc (.cells #[v] 40)).heap.size = w.heap.size + 1 := World.size_alloc _ _
  generalize w.alloc _ = w1 at *
  have HC := Lib.hid (HH.out w1 hb hs)
  have HB := Lib.hid (And.intro hb hs)
  have HR := Lib.hid hr
  clear hb hs hr HH
  go_wp2_with (refine wpList_load_mid ?hgd 40 (.tmp 5) ?hoq w.heap.size 0 ?hpa [v] tX ?hrq hXx hX2 szCpl ?_
               case hoq => rfl
               case hgd => rfl
               case hpa => rfl
               case hrq => exact HR.out)
  refine HC.out.mono ?_
  rintro e w2 ⟨r, rfl, hP⟩
  have HP := Lib.hid hP
  clear hP
  go_wp2_with fail
  go_ret
  exact ⟨w1, _, rfl, HB.out.1, HB.out.2, HP.out⟩
end Go.Proofs.Ytbpnmiedomchpaa.Fg
