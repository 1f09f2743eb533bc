/-
  zzLayRules: n declarations and n rules.
-/
import Derived.Test.YtmaljklijpoojaaDoorCh
import Derived.Deep.RegionWith
namespace Go.Proofs.YtmaljklijpoojaaDoor.Co
open Go.ChangeShapes Go.WideShapes Go.ChangeAt Go.RowKit Rg Quad
set_option linter.unusedVariables false
set_option linter.unusedSimpArgs false
theorem th_set {w : World} {b o n : Nat} {p : Addr} {x : Value} (h : w.there b o n) : (w.setCell p x).there b o n := fun j hj =>
  ⟨set_some (h j hj).1, by simp only [World.frozen?_setCell]; exact (h j hj).2⟩
theorem rg_far {w : World} {b o : Nat} {cs : List Value} {p : Addr} {x : Value} (h : w.rangeAt b o cs) (hne : ∀ j, j < cs.length → p ≠ ⟨b, o + j, none⟩) : (w.setCell p x).rangeAt b o cs := fun j v hv => by
  have hj : j < cs.length := (List.getElem?_eq_some_iff.1 hv).1
  rw [World.cell?_setCell_other _ _ _ _ (fun e => hne j hj e)]
  exact h j v hv
theorem rg_other {w : World} {b o : Nat} {cs : List Value} {p : Addr} {x : Value} (h : w.rangeAt b o cs) (hne : p.block ≠ b) : (w.setCell p x).rangeAt b o cs := rg_far h fun j _ e => hne (by rw [e])
theorem cell_other {w : World} {p q : Addr} {v x : Value} (h : w.cell? q = some v) (hne : p.block ≠ q.block) : (w.setCell p x).cell? q = some v := by
  rw [World.cell?_setCell_other]
  · exact h
  · intro e; exact hne (by rw [e])
theorem pd_info : (Tryd.prog.info? 25).map (fun i => (i.zero, i.size, i.bytes)) = some (some (.pointer none), 1, 8) := by kernel_rfl
theorem ru_info : (Tryd.prog.info? 49).map (fun i => (i.zero, i.size, i.bytes)) = some (some (.agg #[.nilIface, .int .i32 0]), 2, 24) := by kernel_rfl
end Go.Proofs.YtmaljklijpoojaaDoor.Co
