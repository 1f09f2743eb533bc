/-
  An append of one owned row onto another, empty or not; what survives it.
-/
import Derived.Test.YtaiofdgiabmelaaFmtUe
namespace Go.Proofs.YtaiofdgiabmelaaFmt.Sb
open Go.ChangeShapes Go.WideShapes Go.ChangeAt Go.RowKit Rg
set_option linter.unusedVariables false
set_option linter.unusedSimpArgs false
section
variable {P : Program}
theorem run_append_nil2 (w : World) (base : Nat) (t ty e : TypeId) (i : TypeInfo) (size : Nat) (ht : P.underlying t = some (.slice e)) (hi : P.info? e = some i) (v : Value) (n : Nat) (xs : List Value) (hown : w.ownsRow base e size v n xs) :
    (Builtin.append_ #[t, t] ty #[v, .slice none 0 0]).run P w = .ok v w := by
  rcases hown.2 with ⟨rfl, rfl⟩ | ⟨g, cap, cur, rfl, hbg, hg, hnc, hcm, hcs, htake⟩
  · simp [Builtin.append_, run_underlying ht, sizeOf, typeInfo, hi, Builtin.lenOf, Builtin.firstCells, loadCells, loadCellsFrom]
  · simp [Builtin.append_, run_underlying ht, sizeOf, typeInfo, hi, Builtin.lenOf, Builtin.firstCells, loadCells, loadCellsFrom, hnc, storeCells]
/-- append(v, u...) of two rows that are owned (in whatever base), u may be nil -/
theorem wpl_app2 {w : World} {ops : Array Oper} {rest : List Oper} {o : Oper} {a : Act} {Q : Exit → Act → World → Prop} (hgd : o.guard = none) (s x : Operand) (t : TypeId)
    (ho : o.op = .call { callee := .builtin .append, args := #[s, x], argTypes := #[t, t] })
    (base : Nat) (e : TypeId) (i : TypeInfo) (z : Value) (size bytes : Nat) (ht : P.underlying t = some (.slice e)) (hi : P.info? e = some i) (hz : i.zero = some z)
    (hsize : i.size = size) (hby : i.bytes = bytes) (hzs : z.cells.size = size) (hsz : 0 < size)
    (v : Value) (n : Nat) (xs : List Value) (hs : a.eval s = v) (hown : w.ownsRow base e size v n xs)
    (u : Value) (b2 m : Nat) (ys : List Value) (hx : a.eval x = u) (hown2 : w.ownsRow b2 e size u m ys) (h1 : ∀ y ∈ ys, y.oneCell' = true)
    (h63 : n + m ≤ maxLen) (hbytes : (n + m) * bytes ≤ 140737488355328) (hbase : base ≤ w.heap.size)
    (h : ∀ v' w', w'.ownsRow base e size v' (n + m) (xs ++ ys) → w.grownBy w' v.ownBlock → (v'.ownBlock = v.ownBlock ∨ v'.ownBlock = some w.heap.size) → wpList P ops Q rest (a.put o.dst v') w') :
    wpList P ops Q (o :: rest) a w := by
  refine wpList_plain hgd fun K hK => ?_
  have hex : ∃ v' w', (Builtin.append_ #[t, t] o.type #[v, u]).run P w = .ok v' w' ∧ w'.ownsRow base e size v' (n + m) (xs ++ ys) ∧ w.grownBy w' v.ownBlock ∧ (v'.ownBlock = v.ownBlock ∨ v'.ownBlock = some w.heap.size) := by
    rcases hown2.2 with ⟨rfl, rfl⟩ | ⟨g, cap, cur, rfl, _⟩
    · have hy : ys = [] := List.eq_nil_of_length_eq_zero (by simpa using hown2.1)
      subst hy
      exact ⟨v, w, run_append_nil2 w base t o.type e i size ht hi v n xs hown, by simpa using hown, ⟨rfl, rfl, rfl, Nat.le_refl _, fun _ _ _ => rfl⟩, .inl rfl⟩
    · obtain ⟨v', w', hr, h2, h3, _, h5⟩ := run_append_own_at (P := P) w base t o.type e i z size bytes ht hi hz hsize hby hzs hsz v n xs hown ⟨g, 0, none⟩ m cap ys hown2.1 (hown2.cells rfl) h1 h63 hbytes hbase
      exact ⟨v', w', hr, h2, h3, h5⟩
  obtain ⟨v', w', hr, h2, h3, h5⟩ := hex
  unfold Oper.wp execOp
  simp only [ho, resolve, invoke, builtin, Sem.run_bind, Sem.run_pure, Result.andThen_ok, List.map_toArray, List.map_cons, List.map_nil, hs, hx, hr]
  exact hK _ _ (h v' w' h2 h3 h5)
end
theorem grown_new {w wA wB : World} {row row2 : Option Nat} (h : w.grownBy wA row) (hg : wA.grownBy wB row2) (hq : ∀ q, row2 = some q → w.heap.size ≤ q) : w.grownBy wB row := by
  refine ⟨hg.os.trans h.os, hg.tape.trans h.tape, hg.output.trans h.output, Nat.le_trans h.size hg.size, fun i hi hne => ?_⟩
  rw [hg.block i (Nat.lt_of_lt_of_le hi h.size) (fun e => by have := hq i e.symm; omega)]
  exact h.block i hi hne
theorem grown_then {w wA wB : World} {row : Option Nat} (h : w.grownBy wA row) (hb : Below wA.heap.size wA wB) : w.grownBy wB row := grown_new h (grown_below hb none) (fun q hq => by cases hq)
theorem grown_set {w wA : World} {row : Option Nat} (h : w.grownBy wA row) {g o : Nat} (vs : List Value) (hg : w.heap.size ≤ g) : w.grownBy (wA.setCells g o vs) row := by
  have hb := below_setCells (B := w.heap.size) hg vs o (Below.refl w.heap.size wA)
  refine ⟨hb.os.trans h.os, hb.tape.trans h.tape, hb.output.trans h.output, Nat.le_trans h.size hb.size, fun i hi hne => ?_⟩
  rw [hb.block i hi]
  exact h.block i hi hne
theorem grown_set1 {w wA : World} {row : Option Nat} (h : w.grownBy wA row) {g o : Nat} (v : Value) (hg : w.heap.size ≤ g) : w.grownBy (wA.setCell ⟨g, o, none⟩ v) row := grown_set h [v] hg
theorem FCm.one {X : Nat → Prop} {w : World} {r : Cr} (h : FCm X w r) : ∀ u ∈ r.cells, u.oneCell' = true := by
  obtain ⟨⟨P, h1, _⟩, an, cn, h2, _⟩ := h
  obtain ⟨a, c, hv⟩ := own_slice h1
  unfold Cr.cells
  rw [hv, h2]
  exact cmc_one _ _ _ _ _ _ _
theorem spc_one (P : List (Nat × ByteArray)) : ∀ u ∈ P.flatMap spc, u.oneCell' = true := by
  intro u hu
  simp only [List.mem_flatMap] at hu
  obtain ⟨x, _, hu⟩ := hu
  exact sbc_one _ u hu
/-- two cells into a box of six: the combinator -/
theorem cm_set34 {w : World} {g : Nat} {vs vn : Value} {cb cb' : Int} (h : w.rangeAt g 0 (cmc vs vn cb)) : (w.setCells g 3 [.int .i32 0, .int .u8 cb']).rangeAt g 0 (cmc vs vn cb') := by
  have hs3 : (w.cell? ⟨g, 3, none⟩).isSome = true := by rw [h 3 _ rfl]; rfl
  have hs4 : (w.cell? ⟨g, 4, none⟩).isSome = true := by rw [h 4 _ rfl]; rfl
  intro j v hj
  show ((w.setCell ⟨g, 3, none⟩ (.int .i32 0)).setCell ⟨g, 4, none⟩ (.int .u8 cb')).cell? ⟨g, 0 + j, none⟩ = some v
  rw [Nat.zero_add]
  by_cases e4 : j = 4
  · subst e4
    have : v = .int .u8 cb' := by simpa [cmc] using hj.symm
    subst this
    exact set_same (set_some hs4)
  · refine set_far (fun e => e4 e.symm) ?_
    by_cases e3 : j = 3
    · subst e3
      have : v = .int .i32 0 := by simpa [cmc] using hj.symm
      subst this
      exact set_same hs3
    · refine set_far (fun e => e3 e.symm) ?_
      have := h j v (by
        rw [← hj]
        match j, e3, e4 with
        | 0, _, _ | 1, _, _ | 2, _, _ => rfl
        | 3, e, _ => exact absurd rfl e
        | 4, _, e => exact absurd rfl e
        | 5, _, _ | (_ + 6), _, _ => rfl)
      rwa [Nat.zero_add] at this
end Go.Proofs.YtaiofdgiabmelaaFmt.Sb
