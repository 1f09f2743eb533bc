/-
  The state of the law of four longhands: what its tests ask.
-/
import Derived.Test.YtmaljklijpoojaaDoorDa
namespace Go.Proofs.YtmaljklijpoojaaDoor.Co
open Go.ChangeShapes Go.WideShapes Go.ChangeAt Go.RowKit Rg Quad
set_option linter.unusedVariables false
set_option linter.unusedSimpArgs false
theorem bk_rg {w : World} {g : Nat} {t : TypeId} {cs : List Value} (h : Bk w g t cs.toArray) : w.rangeAt g 0 cs := fun j v hv => by
  rw [Nat.zero_add]
  exact h.cell j (by rw [List.getElem?_toArray]; exact hv)
theorem LU.kept {c : LB} {D V : Nat → Nat} {w : World} (h : LU c 4 D V w) {j : Nat} (hj : j < 4) :
    Calls Tryd.prog 7 #[.slice (some ⟨c.r, 0, none⟩) 4 4, .slice (some ⟨c.gD, 0, none⟩) 4 4, .slice (some ⟨c.b9, 0, none⟩) 4 4, .int .i64 (j : Int)] w (TrueB w) :=
  zk_any c.r 4 4 j c.gD 4 (D j) (some ⟨c.b9, 0, none⟩) 4 4 c.lc (c.R D 4) w h.2.1 hj (by unfold LB.R; rw [if_pos hj]) (h.1.2.1 j hj) (fun i hi => ⟨c.b9, 0, rfl, by rw [Nat.zero_add]; exact h.1.1.2.2.2 i hi⟩) rfl
theorem LU.long {c : LB} {D V : Nat → Nat} {w : World} (h : LU c 4 D V w) {j : Nat} (hj : j < 4) (hf : 0 ≤ c.f j ∧ c.f j < 256) (hs : 0 ≤ c.s j ∧ c.s j < 256) :
    Calls Tryd.prog 8 #[.pointer (some ⟨D j, 0, none⟩), .int .u8 (c.f j), .int .u8 (c.s j), .bool (c.pr j)] w (TrueB w) := by
  obtain ⟨hd, hv, _, _⟩ := h.1.2.2.2.1 j hj
  have e1 : vlC (c.pr j) (c.A j) (c.B j) = vlC (c.pr j) (c.f j % 8) (c.s j % 8) := by
    unfold vlC LB.A LB.B
    by_cases hp : c.pr j = true
    · rw [if_pos hp, if_pos hp, if_pos hp]
    · rw [if_neg hp, if_neg hp]
  rw [e1] at hv
  refine lv_any (c.f j) (c.s j) (c.f j % 8) (c.s j % 8) (c.pr j) (D j) (V j) _ _ _ _ c.imp w hf hs rfl rfl (bk_rg hd) (bk_rg hv) ?_
  unfold nN nn LB.A LB.B
  by_cases hp : c.pr j = true
  · rw [if_pos hp, if_pos hp]
    by_cases h2 : c.f j % 8 ≤ 5 ∧ c.s j % 8 ≤ 5 ∧ c.f j % 8 = c.s j % 8
    · rw [if_pos ⟨h2.1, h2.2.1, hp, h2.2.2⟩, if_pos (.inr h2)]
    · rw [if_neg (fun h => h2 ⟨h.1, h.2.1, h.2.2.2⟩), if_neg]
      rintro (h | h)
      · rw [hp] at h; cases h
      · exact h2 h
  · rw [if_neg hp, if_neg hp, if_neg (fun h => hp h.2.2.1), if_pos (.inl (by simpa using hp))]
theorem LM.gone {c : LB} {D V : Nat → Nat} {d g nv cv : Nat} {X : Nat → TY} {w : World} (h : LM c D V d g nv cv X w) {j : Nat} (hj : j < 3) :
    Calls Tryd.prog 9 #[.slice (some ⟨c.r, 0, none⟩) 4 4, .int .i64 (j : Int)] w (TrueB w) := by
  refine zg_any c.r 4 4 j _ w h.2.1 (by omega) ?_
  unfold upR
  rw [if_neg (by omega)]
  unfold rk
  rw [if_pos]
  have c : j = 0 ∨ j = 1 ∨ j = 2 := by omega
  rcases c with rfl | rfl | rfl <;> rfl
theorem LM.rule3 {c : LB} {D V : Nat → Nat} {d g nv cv : Nat} {X : Nat → TY} {w : World} (h : LM c D V d g nv cv X w) :
    w.cell? ⟨c.r, 6, none⟩ = some (.iface 25 (.pointer (some ⟨d, 0, none⟩))) ∧ w.cell? ⟨c.r, 7, none⟩ = some (.int .i32 (mz id c.lc 4)) := by
  have := h.2.1.cells (j := 3) (by omega)
  unfold upR at this
  rw [if_pos rfl] at this
  exact this
theorem LM.minl {c : LB} {D V : Nat → Nat} {d g nv cv : Nat} {X : Nat → TY} {w : World} (h : LM c D V d g nv cv X w) :
    Calls Tryd.prog 11 #[.agg #[.int .i64 0, .int .i64 1, .int .i64 2, .int .i64 3], .slice (some ⟨c.b9, 0, none⟩) 4 4] w fun e w' => e = .returned (.int .i32 (mz id c.lc 4)) ∧ Below w.heap.size w w' :=
  ml_any id (some ⟨c.b9, 0, none⟩) 4 4 c.lc w (fun i hi => hi) (fun i hi => ⟨c.b9, 0, rfl, by rw [Nat.zero_add]; exact h.1.1.2.2.2 i hi⟩)
theorem LM.decl {c : LB} {D V : Nat → Nat} {d g nv cv : Nat} {X : Nat → TY} {w : World} (h : LM c D V d g nv cv X w) :
    Calls Tryd.prog 12 #[.pointer (some ⟨d, 0, none⟩), .agg #[.int .i32 (c.lc 3), .int .i32 3], .bool c.imp] w (TrueB w) :=
  ds_any d (.slice (some ⟨g, 0, none⟩) nv cv) (c.lc 3) c.imp w (bk_rg h.2.2.1)
theorem LM.value {c : LB} {D V : Nat → Nat} {d g nv cv : Nat} {X : Nat → TY} {mf : Bool} {w : World} (h : LM c D V d g nv cv X w) (hv : VX (qa (c.Q 4)) (qb (c.Q 4)) mf nv X) (hm : mrg (c.Q 4)) :
    Calls Tryd.prog 13 #[.slice (some ⟨g, 0, none⟩) nv cv, .agg #[.int .u8 (c.A 0), .int .u8 (c.A 1), .int .u8 (c.A 2), .int .u8 (c.A 3)], .agg #[.int .u8 (c.B 0), .int .u8 (c.B 1), .int .u8 (c.B 2), .int .u8 (c.B 3)], .bool mf] w (TrueB w) := by
  have hA : ∀ j, 0 ≤ c.A j ∧ c.A j < 8 := fun j => by unfold LB.A; omega
  have hB : ∀ j, 0 ≤ c.B j ∧ c.B j < 8 := fun j => by unfold LB.B; split <;> omega
  have h1 := cv_any g nv cv X (qa (c.Q 4)) (qb (c.Q 4)) mf w h.2.2.2 hv (fun i hi => by rw [show qa (c.Q 4) i = c.A i from (qk_qa hm hi).1]; exact hA i) (fun i hi => by rw [show qb (c.Q 4) i = c.B i from (qk_qa hm hi).2]; exact hB i)
  rw [a4_congr (p := qa (c.Q 4)) (q := c.A) (fun i hi => (qk_qa hm hi).1), a4_congr (p := qb (c.Q 4)) (q := c.B) (fun i hi => (qk_qa hm hi).2)] at h1
  exact h1
end Go.Proofs.YtmaljklijpoojaaDoor.Co
