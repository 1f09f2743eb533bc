/-
  The readers of what is given.
-/
import Derived.Test.YtbpnmiedomchpaaGd
import Derived.Deep.Strs
import Derived.Deep.Fields
import Derived.Lib.SliceRun
import Derived.Lib.SmallJoins
namespace Go.Proofs.Ytbpnmiedomchpaa.Fg
open Go.ChangeShapes Go.WideShapes Go.ChangeAt Go.RowKit Go.Deep Rg
set_option linter.unusedVariables false
set_option linter.unusedSimpArgs false
theorem uInn : (Try.prog.underlying 60).map (fun d => match d with | .struct fs => (fs.toList.map fun f => (f.type, f.offset)) | _ => []) = some [(5, 0), (5, 1), (5, 2), (46, 3)] := by kernel_rfl
theorem cInn : Try.prog.cellsOf 60 = 4 := by kernel_rfl
set_option maxRecDepth 100000 in
theorem fieldsInn : ∃ f0 f1 f2 f3 : Field, Try.prog.underlying 60 = some (.struct #[f0, f1, f2, f3]) ∧ (f0.type = 5 ∧ f0.offset = 0) ∧ (f1.type = 5 ∧ f1.offset = 1) ∧ (f2.type = 5 ∧ f2.offset = 2) ∧ (f3.type = 46 ∧ f3.offset = 3) := by
  have h := uInn
  cases hq : Try.prog.underlying 60 with
  | none => rw [hq] at h; simp at h
  | some d =>
    rw [hq] at h
    cases d with
    | struct fs =>
      obtain ⟨l⟩ := fs
      simp at h
      match l, h with
      | [f0, f1, f2, f3], h =>
        simp at h
        exact ⟨f0, f1, f2, f3, rfl, h.1, h.2.1, h.2.2.1, h.2.2.2⟩
    | _ => simp at h
theorem uSjj : (Try.prog.underlying 58).map (fun d => match d with | .struct fs => (fs.toList.map fun f => (f.type, f.offset)) | _ => []) = some [(4, 0), (5, 1), (9, 2), (56, 3)] := by kernel_rfl
theorem cSjj : Try.prog.cellsOf 58 = 4 := by kernel_rfl
set_option maxRecDepth 100000 in
theorem fieldsSjj : ∃ f0 f1 f2 f3 : Field, Try.prog.underlying 58 = some (.struct #[f0, f1, f2, f3]) ∧ (f0.type = 4 ∧ f0.offset = 0) ∧ (f1.type = 5 ∧ f1.offset = 1) ∧ (f2.type = 9 ∧ f2.offset = 2) ∧ (f3.type = 56 ∧ f3.offset = 3) := by
  have h := uSjj
  cases hq : Try.prog.underlying 58 with
  | none => rw [hq] at h; simp at h
  | some d =>
    rw [hq] at h
    cases d with
    | struct fs =>
      obtain ⟨l⟩ := fs
      simp at h
      match l, h with
      | [f0, f1, f2, f3], h =>
        simp at h
        exact ⟨f0, f1, f2, f3, rfl, h.1, h.2.1, h.2.2.1, h.2.2.2⟩
    | _ => simp at h
theorem uCoo : (Try.prog.underlying 55).map (fun d => match d with | .struct fs => (fs.toList.map fun f => (f.type, f.offset)) | _ => []) = some [(5, 0), (5, 1), (5, 2), (53, 3)] := by kernel_rfl
theorem cCoo : Try.prog.cellsOf 55 = 4 := by kernel_rfl
set_option maxRecDepth 100000 in
theorem fieldsCoo : ∃ f0 f1 f2 f3 : Field, Try.prog.underlying 55 = some (.struct #[f0, f1, f2, f3]) ∧ (f0.type = 5 ∧ f0.offset = 0) ∧ (f1.type = 5 ∧ f1.offset = 1) ∧ (f2.type = 5 ∧ f2.offset = 2) ∧ (f3.type = 53 ∧ f3.offset = 3) := by
  have h := uCoo
  cases hq : Try.prog.underlying 55 with
  | none => rw [hq] at h; simp at h
  | some d =>
    rw [hq] at h
    cases d with
    | struct fs =>
      obtain ⟨l⟩ := fs
      simp at h
      match l, h with
      | [f0, f1, f2, f3], h =>
        simp at h
        exact ⟨f0, f1, f2, f3, rfl, h.1, h.2.1, h.2.2.1, h.2.2.2⟩
    | _ => simp at h
section
variable {H : Type} {enc : TypeId × Value → H} {w : World} {base : Nat} {spare : Nat → Bool} {hd : Bool}
abbrev Old (w : World) (b : Nat) : Prop := b < w.heap.size
set_option maxRecDepth 100000 in
/-- a slice whose elements are read by hE -/
theorem rw_of {E T : TypeId} {α β : Type} {cells : β → List Value} {el : β → α → Prop} {sz : Nat} (b0 : β) (a0 : α) (hu : Try.prog.underlying T = some (.slice E)) (hcE : Try.prog.cellsOf E = sz) (hsz : ∀ b, (cells b).length = sz) (h0 : 0 < sz)
    (hE : ∀ {fuel : Nat} {cs : List Value} {x : DataW H × List MemPlace}, DataW.trod enc Try.prog w base spare hd fuel E cs = some x → ∃ b a, cs = cells b ∧ el b a)
    {fuel : Nat} {cs : List Value} {x : DataW H × List MemPlace} (hf : DataW.trod enc Try.prog w base spare hd fuel T cs = some x) : ∃ v L, cs = [v] ∧ RW (Old w) w sz cells el v L := by
  rcases open_slice hu hf with ⟨hcs, _⟩ | ⟨y, l, c, m, n, D, Pl, hcs, hb, hl, hm, hmm, hx, hi⟩
  · exact ⟨_, [], hcs, none, 0, rfl, fun i hi => absurd hi (by simp)⟩
  · have hall : ∀ i : Nat, ∃ q : β × α, i < l → (∀ (j : Nat) u, (cells q.1)[j]? = some u → w.cell? ((y.add (i * sz)).add j) = some u) ∧ el q.1 q.2 := by
      intro i
      by_cases hlt : i < l
      · obtain ⟨cs', hc, ht'⟩ := hi i (by rw [hmm]; split <;> omega)
        rw [hcE] at hc
        obtain ⟨b, a, rfl, hel⟩ := hE ht'
        obtain ⟨_, hcl, hat⟩ := World.cells?_some hc
        refine ⟨(b, a), fun _ => ⟨fun j u' hj => ?_, hel⟩⟩
        have hj3 : j < sz := by
          have := (List.getElem?_eq_some_iff.1 hj).1
          rwa [hsz] at this
        have := hat j (by omega)
        rw [this]
        simp at hj
        first | exact hj | (rw [← hj]; simp)
      · exact ⟨(b0, a0), fun h => absurd h hlt⟩
    obtain ⟨q, hq⟩ := Classical.axiomOfChoice hall
    refine ⟨_, (List.range l).map fun i => (q i).2, hcs, some y, c, by simp, fun i hi => ?_⟩
    have hil : i < l := by simpa using hi
    obtain ⟨h1, hel⟩ := hq i hil
    obtain ⟨ab, ao, sp⟩ := y
    have h00 := h1 0 _ (List.getElem?_eq_getElem (by rw [hsz]; exact h0))
    have hs : sp = none := by
      obtain ⟨z0, -⟩ := hq 0 (by omega)
      simpa [Addr.add] using World.cell?_spot (z0 0 _ (List.getElem?_eq_getElem (by rw [hsz]; exact h0)))
    subst hs
    refine ⟨ab, ao, (q i).1, rfl, ?_, ?_, ?_⟩
    · rw [add_none, add_none] at h00
      exact World.block_lt_of_cell? w _ h00
    · intro j u hj
      have := h1 j u hj
      rw [add_none, add_none] at this
      exact this
    · simpa using hel
set_option maxRecDepth 100000 in
theorem nm_of {fuel : Nat} {cs : List Value} {x : DataW H × List MemPlace} (hf : DataW.trod enc Try.prog w base spare hd fuel 46 cs = some x) : ∃ v N, cs = [v] ∧ NmV (Old w) w v N :=
  rw_of (E := 9) (cells := fun s => [.string s]) (el := fun s n => s = n) (sz := 1) ⟨#[]⟩ ⟨#[]⟩ Try.underlying46 (by kernel_rfl) (fun _ => rfl) (by omega) (fun {fuel cs x} h => by
    obtain ⟨s, h1, -, -⟩ := DataW.trod_string (by kernel_rfl) h
    exact ⟨s, s, h1, rfl⟩) hf
set_option maxRecDepth 100000 in
theorem inn_of {fuel : Nat} {cs : List Value} {x : DataW H × List MemPlace} (hf : DataW.trod enc Try.prog w base spare hd fuel 60 cs = some x) : ∃ b a, cs = Gi.cells b ∧ GiE (Old w) w b a := by
  obtain ⟨f0, f1, f2, f3, hu, ⟨t0, o0⟩, ⟨t1, o1⟩, ⟨t2, o2⟩, ⟨t3, o3⟩⟩ := fieldsInn
  obtain ⟨y0, y1, y2, y3, n, -, hl, g0, g1, g2, g3⟩ := _root_.Go.Joins.trod_struct4 hu hf
  rw [cInn] at hl
  match cs, hl with
  | [v0, v1, v2, v3], _ =>
    rw [t0, o0, show Try.prog.cellsOf 5 = 1 by kernel_rfl] at g0
    rw [t1, o1, show Try.prog.cellsOf 5 = 1 by kernel_rfl] at g1
    rw [t2, o2, show Try.prog.cellsOf 5 = 1 by kernel_rfl] at g2
    rw [t3, o3, show Try.prog.cellsOf 46 = 1 by kernel_rfl] at g3
    obtain ⟨k0, e0, _, w0⟩ := DataW.trod_int (k := .u8) (by kernel_rfl) g0
    obtain ⟨k1, e1, _, w1⟩ := DataW.trod_int (k := .u8) (by kernel_rfl) g1
    obtain ⟨k2, e2, _, w2⟩ := DataW.trod_int (k := .u8) (by kernel_rfl) g2
    obtain ⟨v, N, e3, hN⟩ := nm_of g3
    simp at e0 e1 e2 e3
    subst e0 e1 e2 e3
    simp only [Lit.wf, IntKind.min, IntKind.max, IntKind.bits, IntKind.signed] at w0 w1 w2
    have w0' : 0 ≤ k0 ∧ k0 ≤ 255 := by simpa using w0
    have w1' : 0 ≤ k1 ∧ k1 ≤ 255 := by simpa using w1
    have w2' : 0 ≤ k2 ∧ k2 ≤ 255 := by simpa using w2
    obtain ⟨a, rfl⟩ : ∃ a : Nat, k0 = a := ⟨k0.toNat, by omega⟩
    obtain ⟨b, rfl⟩ : ∃ a : Nat, k1 = a := ⟨k1.toNat, by omega⟩
    obtain ⟨c, rfl⟩ : ∃ a : Nat, k2 = a := ⟨k2.toNat, by omega⟩
    exact ⟨⟨⟨a, b, c, N⟩, v3⟩, ⟨a, b, c, N⟩, rfl, rfl, by show a < 256; omega, by show b < 256; omega, by show c < 256; omega, hN⟩
set_option maxRecDepth 100000 in
theorem sjj_of {fuel : Nat} {cs : List Value} {x : DataW H × List MemPlace} (hf : DataW.trod enc Try.prog w base spare hd fuel 58 cs = some x) : ∃ b a, cs = Gs.cells b ∧ GsE (Old w) w b a := by
  obtain ⟨f0, f1, f2, f3, hu, ⟨t0, o0⟩, ⟨t1, o1⟩, ⟨t2, o2⟩, ⟨t3, o3⟩⟩ := fieldsSjj
  obtain ⟨y0, y1, y2, y3, n, -, hl, g0, g1, g2, g3⟩ := _root_.Go.Joins.trod_struct4 hu hf
  rw [cSjj] at hl
  match cs, hl with
  | [v0, v1, v2, v3], _ =>
    rw [t0, o0, show Try.prog.cellsOf 4 = 1 by kernel_rfl] at g0
    rw [t1, o1, show Try.prog.cellsOf 5 = 1 by kernel_rfl] at g1
    rw [t2, o2, show Try.prog.cellsOf 9 = 1 by kernel_rfl] at g2
    rw [t3, o3, show Try.prog.cellsOf 56 = 1 by kernel_rfl] at g3
    obtain ⟨k0, e0, -⟩ := DataW.trod_bool (by kernel_rfl) g0
    obtain ⟨k1, e1, _, w1⟩ := DataW.trod_int (k := .u8) (by kernel_rfl) g1
    obtain ⟨k2, e2, -, -⟩ := DataW.trod_string (by kernel_rfl) g2
    obtain ⟨v, I, e3, hI⟩ := rw_of (cells := Gi.cells) (el := GiE (Old w) w) (sz := 4) ⟨⟨0, 0, 0, []⟩, .slice none 0 0⟩ ⟨0, 0, 0, []⟩ Try.underlying56 cInn (fun _ => rfl) (by omega) inn_of g3
    simp at e0 e1 e2 e3
    subst e0 e1 e2 e3
    simp only [Lit.wf, IntKind.min, IntKind.max, IntKind.bits, IntKind.signed] at w1
    have w1' : 0 ≤ k1 ∧ k1 ≤ 255 := by simpa using w1
    obtain ⟨b, rfl⟩ : ∃ a : Nat, k1 = a := ⟨k1.toNat, by omega⟩
    exact ⟨⟨⟨k0, b, k2, I⟩, v3⟩, ⟨k0, b, k2, I⟩, rfl, rfl, by show b < 256; omega, hI⟩
set_option maxRecDepth 100000 in
theorem coo_of {fuel : Nat} {cs : List Value} {x : DataW H × List MemPlace} (hf : DataW.trod enc Try.prog w base spare hd fuel 55 cs = some x) : ∃ b a, cs = Gc.cells b ∧ GcE (Old w) w b a := by
  obtain ⟨f0, f1, f2, f3, hu, ⟨t0, o0⟩, ⟨t1, o1⟩, ⟨t2, o2⟩, ⟨t3, o3⟩⟩ := fieldsCoo
  obtain ⟨y0, y1, y2, y3, n, -, hl, g0, g1, g2, g3⟩ := _root_.Go.Joins.trod_struct4 hu hf
  rw [cCoo] at hl
  match cs, hl with
  | [v0, v1, v2, v3], _ =>
    rw [t0, o0, show Try.prog.cellsOf 5 = 1 by kernel_rfl] at g0
    rw [t1, o1, show Try.prog.cellsOf 5 = 1 by kernel_rfl] at g1
    rw [t2, o2, show Try.prog.cellsOf 5 = 1 by kernel_rfl] at g2
    rw [t3, o3, show Try.prog.cellsOf 53 = 1 by kernel_rfl] at g3
    obtain ⟨k0, e0, _, w0⟩ := DataW.trod_int (k := .u8) (by kernel_rfl) g0
    obtain ⟨k1, e1, _, w1⟩ := DataW.trod_int (k := .u8) (by kernel_rfl) g1
    obtain ⟨k2, e2, _, w2⟩ := DataW.trod_int (k := .u8) (by kernel_rfl) g2
    obtain ⟨v, S, e3, hS⟩ := rw_of (cells := Gs.cells) (el := GsE (Old w) w) (sz := 4) ⟨⟨false, 0, ⟨#[]⟩, []⟩, .slice none 0 0⟩ ⟨false, 0, ⟨#[]⟩, []⟩ Try.underlying53 cSjj (fun _ => rfl) (by omega) sjj_of g3
    simp at e0 e1 e2 e3
    subst e0 e1 e2 e3
    simp only [Lit.wf, IntKind.min, IntKind.max, IntKind.bits, IntKind.signed] at w0 w1 w2
    have w0' : 0 ≤ k0 ∧ k0 ≤ 255 := by simpa using w0
    have w1' : 0 ≤ k1 ∧ k1 ≤ 255 := by simpa using w1
    have w2' : 0 ≤ k2 ∧ k2 ≤ 255 := by simpa using w2
    obtain ⟨a, rfl⟩ : ∃ a : Nat, k0 = a := ⟨k0.toNat, by omega⟩
    obtain ⟨b, rfl⟩ : ∃ a : Nat, k1 = a := ⟨k1.toNat, by omega⟩
    obtain ⟨c, rfl⟩ : ∃ a : Nat, k2 = a := ⟨k2.toNat, by omega⟩
    exact ⟨⟨⟨a, b, c, S⟩, v3⟩, ⟨a, b, c, S⟩, rfl, rfl, by show a < 256; omega, by show b < 256; omega, by show c < 256; omega, hS⟩
set_option maxRecDepth 100000 in
theorem open_coo {r : Reach} {b0 : Nat} {v : Value} {d : DataW H} {p : List MemPlace} (hv : Value.okWide Try.prog w r b0 23 v) (h : DataW.Trod enc Try.prog w base spare hd 23 v d p) : ∃ C, CoV (Old w) w v C := by
  obtain ⟨a, n, c, rfl⟩ := okWide_slice Try.underlying23 hv
  obtain ⟨fuel, hf⟩ := h
  obtain ⟨u, L, e, h⟩ := rw_of (cells := Gc.cells) (el := GcE (Old w) w) (sz := 4) ⟨⟨0, 0, 0, []⟩, .slice none 0 0⟩ ⟨0, 0, 0, []⟩ Try.underlying23 cCoo (fun _ => rfl) (by omega) coo_of hf
  simp [Value.cells] at e
  subst e
  exact ⟨L, h⟩
end
end Go.Proofs.Ytbpnmiedomchpaa.Fg
