/-
  The readers of what is given: names, compounds, lists of compounds.
-/
import Derived.Test.YtaiofdgiabmelaaFmtUt
import Derived.Deep.Strs
import Derived.Deep.Fields
import Derived.Lib.SliceRun
namespace Go.Proofs.YtaiofdgiabmelaaFmt.Sb
open Go.ChangeShapes Go.WideShapes Go.ChangeAt Go.RowKit Go.Deep Rg
set_option linter.unusedVariables false
theorem uCmt : (Tryf.prog.underlying 24).map (fun d => match d with | .struct fs => (fs.toList.map fun f => (f.type, f.offset)) | _ => []) = some [(5, 0), (5, 1), (22, 2)] := by kernel_rfl
theorem cCmt : Tryf.prog.cellsOf 24 = 3 := by kernel_rfl
theorem uCxt : (Tryf.prog.underlying 27).map (fun d => match d with | .struct fs => (fs.toList.map fun f => (f.type, f.offset)) | _ => []) = some [(25, 0)] := by kernel_rfl
theorem cCxt : Tryf.prog.cellsOf 27 = 1 := by kernel_rfl
set_option maxRecDepth 100000 in
theorem fieldsCm : ∃ f0 f1 f2 : Field, Tryf.prog.underlying 24 = some (.struct #[f0, f1, f2]) ∧ (f0.type = 5 ∧ f0.offset = 0) ∧ (f1.type = 5 ∧ f1.offset = 1) ∧ (f2.type = 22 ∧ f2.offset = 2) := by
  have h := uCmt
  cases hq : Tryf.prog.underlying 24 with
  | none => rw [hq] at h; simp at h
  | some d =>
    rw [hq] at h
    cases d with
    | struct fs =>
      obtain ⟨l⟩ := fs
      simp at h
      match l, h with
      | [f0, f1, f2], h =>
        simp at h
        exact ⟨f0, f1, f2, rfl, h.1, h.2.1, h.2.2⟩
    | _ => simp at h
set_option maxRecDepth 100000 in
theorem fieldsCx : ∃ f0 : Field, Tryf.prog.underlying 27 = some (.struct #[f0]) ∧ (f0.type = 25 ∧ f0.offset = 0) := by
  have h := uCxt
  cases hq : Tryf.prog.underlying 27 with
  | none => rw [hq] at h; simp at h
  | some d =>
    rw [hq] at h
    cases d with
    | struct fs =>
      obtain ⟨l⟩ := fs
      simp at h
      match l, h with
      | [f0], h =>
        simp at h
        exact ⟨f0, rfl, h⟩
    | _ => simp at h
section
variable {H : Type} {enc : TypeId × Value → H} {w : World} {base : Nat} {spare : Nat → Bool} {hd : Bool}
abbrev Old (w : World) (b : Nat) : Prop := b < w.heap.size
set_option maxRecDepth 100000 in
theorem nm_of {fuel : Nat} {cs : List Value} {x : DataW H × List MemPlace} (hf : DataW.trod enc Tryf.prog w base spare hd fuel 22 cs = some x) : ∃ v N, cs = [v] ∧ NmV (Old w) w v N := by
  rcases open_strs Tryf.underlying22 (by kernel_rfl) (by kernel_rfl) hf with ⟨hcs, _⟩ | ⟨y, l, c, m, S, hcs, hb, hl, hm, hmm, hx, hall⟩
  · exact ⟨_, [], hcs, none, 0, rfl, fun i hi => absurd hi (by simp)⟩
  · refine ⟨_, (List.range l).map S, hcs, some y, c, by simp, fun i hi => ?_⟩
    have hil : i < l := by simpa using hi
    have hc := (hall i (by rw [hmm]; split <;> omega)).1
    obtain ⟨ab, ao, sp⟩ := y
    have hs : sp = none := by
      have h0 := (hall 0 (by rw [hmm]; split <;> omega)).1
      simpa [Addr.add] using World.cell?_spot h0
    subst hs
    rw [add_none] at hc
    refine ⟨ab, ao, rfl, World.block_lt_of_cell? w _ hc, ?_⟩
    rw [hc]
    simp
set_option maxRecDepth 100000 in
theorem cmt_of {fuel : Nat} {cs : List Value} {x : DataW H × List MemPlace} (hf : DataW.trod enc Tryf.prog w base spare hd fuel 24 cs = some x) : ∃ (cb : Int) (am : Nat) (u : Value) (N : List ByteArray), cs = [.int .u8 cb, .int .u8 (am : Nat), u] ∧ am ≤ 255 ∧ NmV (Old w) w u N := by
  obtain ⟨f0, f1, f2, hu, ⟨t0, o0⟩, ⟨t1, o1⟩, ⟨t2, o2⟩⟩ := fieldsCm
  obtain ⟨y0, y1, y2, n, -, hl, g0, g1, g2⟩ := trod_struct3 hu hf
  rw [cCmt] at hl
  match cs, hl with
  | [v0, v1, v2], _ =>
    rw [t0, o0, show Tryf.prog.cellsOf 5 = 1 by kernel_rfl] at g0
    rw [t1, o1, show Tryf.prog.cellsOf 5 = 1 by kernel_rfl] at g1
    rw [t2, o2, show Tryf.prog.cellsOf 22 = 1 by kernel_rfl] at g2
    obtain ⟨k0, e0, _, w0⟩ := DataW.trod_int (k := .u8) (by kernel_rfl) g0
    obtain ⟨k1, e1, _, w1⟩ := DataW.trod_int (k := .u8) (by kernel_rfl) g1
    obtain ⟨v, N, e2, hN⟩ := nm_of g2
    simp at e0 e1 e2
    subst e0 e1 e2
    simp only [Lit.wf, IntKind.min, IntKind.max, IntKind.bits, IntKind.signed] at w1
    have w1' : 0 ≤ k1 ∧ k1 ≤ 255 := by simpa using w1
    obtain ⟨a, rfl⟩ : ∃ a : Nat, k1 = a := ⟨k1.toNat, by omega⟩
    exact ⟨k0, a, v2, N, rfl, by omega, hN⟩
set_option maxRecDepth 100000 in
theorem cms_of {fuel : Nat} {cs : List Value} {x : DataW H × List MemPlace} (hf : DataW.trod enc Tryf.prog w base spare hd fuel 25 cs = some x) : ∃ v L, cs = [v] ∧ CmV (Old w) w v L ∧ ∀ c ∈ L, c.am ≤ 255 := by
  rcases open_slice Tryf.underlying25 hf with ⟨hcs, _⟩ | ⟨y, l, c, m, n, D, Pl, hcs, hb, hl, hm, hmm, hx, hi⟩
  · exact ⟨_, [], hcs, ⟨none, 0, rfl, fun i hi => absurd hi (by simp)⟩, fun c h => by cases h⟩
  · have hall : ∀ i : Nat, ∃ q : Cm × Value, i < l → (∀ (j : Nat) u, [Value.int .u8 q.1.cb, .int .u8 (q.1.am : Nat), q.2][j]? = some u → w.cell? ((y.add (i * 3)).add j) = some u) ∧ q.1.am ≤ 255 ∧ NmV (Old w) w q.2 q.1.N := by
      intro i
      by_cases hlt : i < l
      · obtain ⟨cs', hc, ht'⟩ := hi i (by rw [hmm]; split <;> omega)
        rw [cCmt] at hc
        obtain ⟨cb, am, u, N, rfl, ha, hN⟩ := cmt_of ht'
        obtain ⟨_, hcl, hat⟩ := World.cells?_some hc
        refine ⟨(⟨cb, am, N⟩, u), fun _ => ⟨fun j u' hj => ?_, ha, hN⟩⟩
        have hj3 : j < 3 := by
          have := (List.getElem?_eq_some_iff.1 hj).1
          simpa using this
        have := hat j (by omega)
        rw [this]
        simp at hj
        first | exact hj | (rw [← hj]; simp)
      · exact ⟨(⟨0, 0, []⟩, .slice none 0 0), fun h => absurd h hlt⟩
    obtain ⟨q, hq⟩ := Classical.axiomOfChoice hall
    refine ⟨_, (List.range l).map fun i => (q i).1, hcs, ⟨some y, c, by simp, fun i hi => ?_⟩, fun c hc => ?_⟩
    · have hil : i < l := by simpa using hi
      obtain ⟨h0, -, hN⟩ := hq i hil
      obtain ⟨ab, ao, sp⟩ := y
      have h00 := h0 0 _ rfl
      have hs : sp = none := by
        obtain ⟨z0, -, -⟩ := hq 0 (by omega)
        simpa [Addr.add] using World.cell?_spot (z0 0 _ rfl)
      subst hs
      refine ⟨ab, ao, (q i).2, rfl, ?_, ?_, ?_⟩
      · rw [add_none, add_none] at h00
        exact World.block_lt_of_cell? w _ h00
      · intro j u hj
        have := h0 j u (by simpa using hj)
        rw [add_none, add_none] at this
        exact this
      · simpa using hN
    · obtain ⟨i, hi, rfl⟩ := List.mem_map.1 hc
      exact (hq i (by simpa using hi)).2.1
set_option maxRecDepth 100000 in
theorem cx_of {fuel : Nat} {cs : List Value} {x : DataW H × List MemPlace} (hf : DataW.trod enc Tryf.prog w base spare hd fuel 27 cs = some x) : ∃ v L, cs = [v] ∧ CmV (Old w) w v L ∧ ∀ c ∈ L, c.am ≤ 255 := by
  obtain ⟨f0, hu, t0, o0⟩ := fieldsCx
  obtain ⟨y0, n, -, hl, g0⟩ := trod_struct1 hu hf
  rw [cCxt] at hl
  rw [t0, o0, show Tryf.prog.cellsOf 25 = 1 by kernel_rfl] at g0
  match cs, hl with
  | [v0], _ =>
    obtain ⟨v, L, e, h⟩ := cms_of g0
    simp at e
    subst e
    exact ⟨v0, L, rfl, h⟩
set_option maxRecDepth 100000 in
/-- a compound, by value -/
theorem open_cmp {r : Reach} {b0 : Nat} {v : Value} {d : DataW H} {p : List MemPlace} (hv : Value.okWide Tryf.prog w r b0 24 v) (h : DataW.Trod enc Tryf.prog w base spare hd 24 v d p) :
    ∃ (cb : Int) (am : Nat) (u : Value) (N : List ByteArray), v = .agg #[.int .u8 cb, .int .u8 (am : Nat), u] ∧ am ≤ 255 ∧ NmV (Old w) w u N := by
  obtain ⟨f0, f1, f2, hu, -⟩ := fieldsCm
  obtain ⟨cs, rfl, hsz⟩ := okWide_struct hu hv
  obtain ⟨fuel, hf⟩ := h
  obtain ⟨cb, am, u, N, e, ha, hN⟩ := cmt_of hf
  obtain ⟨l⟩ := cs
  simp [Value.cells] at e
  subst e
  exact ⟨cb, am, u, N, rfl, ha, hN⟩
set_option maxRecDepth 100000 in
/-- a complex selector, by value -/
theorem open_cx {r : Reach} {b0 : Nat} {v : Value} {d : DataW H} {p : List MemPlace} (hv : Value.okWide Tryf.prog w r b0 27 v) (h : DataW.Trod enc Tryf.prog w base spare hd 27 v d p) :
    ∃ (u : Value) (L : List Cm), v = .agg #[u] ∧ CmV (Old w) w u L ∧ ∀ c ∈ L, c.am ≤ 255 := by
  obtain ⟨f0, hu, -⟩ := fieldsCx
  obtain ⟨cs, rfl, hsz⟩ := okWide_struct hu hv
  obtain ⟨fuel, hf⟩ := h
  obtain ⟨u, L, e, h⟩ := cx_of hf
  obtain ⟨l⟩ := cs
  simp [Value.cells] at e
  subst e
  exact ⟨u, L, rfl, h⟩
set_option maxRecDepth 100000 in
/-- a list of compounds -/
theorem open_cms {r : Reach} {b0 : Nat} {v : Value} {d : DataW H} {p : List MemPlace} (hv : Value.okWide Tryf.prog w r b0 25 v) (h : DataW.Trod enc Tryf.prog w base spare hd 25 v d p) :
    ∃ (L : List Cm), CmV (Old w) w v L ∧ ∀ c ∈ L, c.am ≤ 255 := by
  obtain ⟨a, n, c, rfl⟩ := okWide_slice Tryf.underlying25 hv
  obtain ⟨fuel, hf⟩ := h
  obtain ⟨u, L, e, h⟩ := cms_of hf
  simp [Value.cells] at e
  subst e
  exact ⟨L, h⟩
end
end Go.Proofs.YtaiofdgiabmelaaFmt.Sb
