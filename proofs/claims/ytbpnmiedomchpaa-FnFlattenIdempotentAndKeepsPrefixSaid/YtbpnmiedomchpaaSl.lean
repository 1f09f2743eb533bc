/-
  Slices of one-cell elements that came in; rows that are filled cell by cell; rows of equal elements.
-/
import Derived.Test.YtbpnmiedomchpaaRows
import Derived.Test.YtbpnmiedomchpaaRg
import Derived.OpenShut
import Derived.ShutString
import Derived.Outline
import Derived.WalkLawsBesides
import Derived.WalkSpells
import Derived.WalkSmall
import Derived.Laws.MakeOwn
import Derived.Laws.Entries
import Derived.Laws.OwnMore
import Derived.Deep.AppendLies
import Derived.Maps.AppendAt
import Derived.Deep.OwnRows
import Derived.OwnWalk
import Derived.StillTailTactics
import Derived.Deep.QuietTactic
import Derived.BigQuiet
import Derived.Lib.SliceRun
import Derived.OneCell
namespace Go.Proofs.Ytbpnmiedomchpaa.Rg
open Go.ChangeShapes Go.WideShapes Go.ChangeAt Go.RowKit
set_option linter.unusedVariables false
theorem add_none (ab ao j : Nat) : (⟨ab, ao, none⟩ : Addr).add j = ⟨ab, ao + j, none⟩ := by
  unfold Addr.add
  split
  · rename_i h0; subst h0; rfl
  · rfl
theorem alloc_cell {w : World} {p : Addr} {v : Value} (h : w.cell? p = some v) : ∀ o, (w.alloc o).cell? p = some v := fun o => by
  rw [World.cell?_alloc_lt w o p (World.block_lt_of_cell? w p h)]; exact h
theorem set_same {w : World} {g o : Nat} {v : Value} (h : (w.cell? ⟨g, o, none⟩).isSome = true) : (w.setCell ⟨g, o, none⟩ v).cell? ⟨g, o, none⟩ = some v := World.cell?_setCell_same' w _ v h
theorem set_far {w : World} {g o o' : Nat} {v x : Value} (hne : o' ≠ o) (h : w.cell? ⟨g, o, none⟩ = some v) : (w.setCell ⟨g, o', none⟩ x).cell? ⟨g, o, none⟩ = some v := by
  rw [World.cell?_setCell_other]
  · exact h
  · intro e; injection e with _ e2; exact hne e2
theorem set_some {w : World} {p q : Addr} {x : Value} (h : (w.cell? q).isSome = true) : ((w.setCell p x).cell? q).isSome = true := by
  obtain ⟨v, hv⟩ := Option.isSome_iff_exists.1 h
  obtain ⟨v', hv'⟩ := cell?_setCell_some (p := p) (x := x) hv
  rw [hv']; rfl
theorem run_make_rowN {P : Program} (t e : TypeId) (i : TypeInfo) (z : Value) (ht : P.underlying t = some (.slice e)) (hi : P.info? e = some i) (hz : i.zero = some z)
    (kl kc : IntKind) (n c : Nat) (hnc : n ≤ c) (hbytes : i.bytes * c ≤ 281474976710656) (h63 : c ≤ 9223372036854775807) (w : World) :
    (Instr.makeSlice t (.int kl (n : Int)) (.int kc (c : Int))).run P w = .ok (.slice (some ⟨w.heap.size, 0, none⟩) n c) (w.alloc (.cells (madeCells z.cells (c * i.size)) e)) := by
  have hb : (i.bytes : Int) * (c : Int) ≤ 281474976710656 := by
    have h : ((i.bytes * c : Nat) : Int) ≤ 281474976710656 := by omega
    rwa [Int.natCast_mul] at h
  have hr := run_make (P := P) w t e i z ht hi hz kl kc n c (by omega) (by omega) hb (by omega)
  simp only [Int.toNat_natCast] at hr
  exact hr
/-- a slice of n one-cell elements -/
def Sl (w : World) (a : Option Addr) (n : Nat) (X : Nat → Value) : Prop := ∀ i, i < n → ∃ ab ao, a = some ⟨ab, ao, none⟩ ∧ w.cell? ⟨ab, ao + i, none⟩ = some (X i)
theorem Sl.keep {w w' : World} {a : Option Addr} {n : Nat} {X : Nat → Value} (h : Sl w a n X) (hb : Below w.heap.size w w') : Sl w' a n X := by
  intro i hi
  obtain ⟨ab, ao, e, c⟩ := h i hi
  exact ⟨ab, ao, e, later hb c⟩
theorem Sl.below {w w' : World} {a : Option Addr} {n : Nat} {X : Nat → Value} (h : Sl w a n X) {B : Nat} (hlt : ∀ x, a = some x → x.block < B) (hb : Below B w w') : Sl w' a n X := by
  intro i hi
  obtain ⟨ab, ao, e, c⟩ := h i hi
  exact ⟨ab, ao, e, (hb.cell (p := ⟨ab, ao + i, none⟩) (show ab < B from hlt _ e)).trans c⟩
theorem Sl.none_ (w : World) (a : Option Addr) (X : Nat → Value) : Sl w a 0 X := fun i hi => absurd hi (by omega)
theorem Sl.of_row {α : Type} [Inhabited α] {mk : α → Value} {ok : α → Prop} {w : World} {a : Option Addr} {len cap : Nat} {zs : List α}
    (h : (a = none ∧ len = 0 ∧ cap = 0 ∧ zs = []) ∨ ∃ x, a = some x ∧ len ≤ cap ∧ cap ≤ maxLen ∧ zs.length = cap ∧ (∀ i (h : i < zs.length), w.cell? (x.add i) = some (mk zs[i])) ∧ ∀ n ∈ zs, ok n) :
    Sl w a len (fun i => mk (zs.getD i default)) ∧ (∀ i, i < len → ok (zs.getD i default)) ∧ (a = none → len = 0) ∧ len ≤ maxLen := by
  rcases h with ⟨rfl, rfl, rfl, rfl⟩ | ⟨x, rfl, hl, hm, hz, hc, hok⟩
  · exact ⟨Sl.none_ _ _ _, fun i hi => absurd hi (by omega), fun _ => rfl, Nat.zero_le _⟩
  · refine ⟨fun i hi => ?_, fun i hi => ?_, fun e => by simp at e, by omega⟩
    · have h1 := hc i (by omega)
      obtain ⟨ab, ao, sp⟩ := x
      have h0 := hc 0 (by omega)
      have hs : sp = none := by simpa [Addr.add] using World.cell?_spot h0
      subst hs
      rw [add_none] at h1
      exact ⟨ab, ao, rfl, by rw [h1]; simp [List.getD, show i < zs.length by omega]⟩
    · have := hok _ (List.getElem_mem (show i < zs.length by omega))
      simpa [List.getD, show i < zs.length by omega] using this
/-- block g: a row of n cells, of which the first k are set -/
def CR (B g n k : Nat) (X : Nat → Value) (w0 w : World) : Prop :=
  (∀ j, j < k → w.cell? ⟨g, j, none⟩ = some (X j)) ∧ (∀ o, o < n → (w.cell? ⟨g, o, none⟩).isSome = true) ∧ (∀ o, w.frozen? ⟨g, o, none⟩ = false) ∧ B ≤ g ∧ g < w.heap.size ∧ Below B w0 w
theorem CR.put {B g n k : Nat} {X : Nat → Value} {w0 w : World} (h : CR B g n k X w0 w) (hk : k < n) : CR B g n (k + 1) X w0 (w.setCell ⟨g, k, none⟩ (X k)) := by
  obtain ⟨h1, h2, h3, h4, h5, h6⟩ := h
  refine ⟨fun j hj => ?_, fun o ho => set_some (h2 o ho), fun o => by simp only [World.frozen?_setCell]; exact h3 o, h4, by simpa [World.setCell] using h5, h6.setCell h4 _⟩
  by_cases hjk : j = k
  · subst hjk; exact set_same (h2 j hk)
  · exact set_far (by omega) (h1 j (by omega))
theorem CR.made (w : World) (n : Nat) (X : Nat → Value) (z : Array Value) (t : TypeId) (hz : z.size = n) : CR w.heap.size w.heap.size n 0 X w (w.alloc (.cells z t)) :=
  ⟨fun j hj => absurd hj (by omega), fun o ho => by simp [hz, ho], fun o => by simp, Nat.le_refl _, by simp, (Below.refl _ _).alloc (Nat.le_refl _) _⟩
theorem CR.done {B g n : Nat} {X : Nat → Value} {w0 w : World} (h : CR B g n n X w0 w) : Sl w (some ⟨g, 0, none⟩) n X := fun i hi => ⟨g, 0, rfl, by rw [Nat.zero_add]; exact h.1 i hi⟩
/-- what a clone of a slice answers -/
def Clon (a : Option Addr) (n : Nat) (X : Nat → Value) (w : World) (e : Ending) (w' : World) : Prop :=
  ∃ a' c', e = .returned (.slice a' n c') ∧ Sl w' a' n X ∧ (∀ x, a' = some x → w.heap.size ≤ x.block) ∧ (a' = none ↔ a = none) ∧ Below w.heap.size w w'
/-- a row of elements, element i's cells f i -/
def rowg (f : Nat → List Value) (n : Nat) : List Value := (List.range n).flatMap f
theorem rowg_succ (f : Nat → List Value) (n : Nat) : rowg f (n + 1) = rowg f n ++ f n := by simp [rowg, List.range_succ, List.flatMap_append]
theorem rowg_zero (f : Nat → List Value) : rowg f 0 = [] := rfl
theorem rowg_len (f : Nat → List Value) {s : Nat} (hs : ∀ i, (f i).length = s) : ∀ n, (rowg f n).length = n * s
  | 0 => by simp [rowg]
  | n + 1 => by rw [rowg_succ, List.length_append, rowg_len f hs n, hs, Nat.add_mul, Nat.one_mul]
theorem rowg_at (f : Nat → List Value) {s : Nat} (hs : ∀ i, (f i).length = s) : ∀ n i j, i < n → j < s → (rowg f n)[i * s + j]? = (f i)[j]?
  | 0, _, _, h, _ => absurd h (by omega)
  | n + 1, i, j, h, hj => by
    rw [rowg_succ]
    have hl := rowg_len f hs n
    by_cases e : i = n
    · subst e
      rw [List.getElem?_append_right (by omega), hl]
      congr 1
      omega
    · have hlt : i * s + j < n * s := by
        have : (i + 1) * s ≤ n * s := Nat.mul_le_mul_right _ (by omega)
        rw [Nat.add_mul, Nat.one_mul] at this
        omega
      rw [List.getElem?_append_left (by omega)]
      exact rowg_at f hs n i j (by omega) hj
theorem rowg_congr {f f' : Nat → List Value} : ∀ n, (∀ j, j < n → f j = f' j) → rowg f n = rowg f' n
  | 0, _ => rfl
  | n + 1, h => by rw [rowg_succ, rowg_succ, rowg_congr n (fun j hj => h j (by omega)), h n (by omega)]
theorem rowg_one (f : Nat → List Value) (h : ∀ i, ∀ u ∈ f i, u.oneCell' = true) (n : Nat) : ∀ u ∈ rowg f n, u.oneCell' = true := by
  intro u hu
  simp only [rowg, List.mem_flatMap] at hu
  obtain ⟨i, _, hu⟩ := hu
  exact h i u hu
theorem own_keep {w w' : World} {B : Nat} {e : TypeId} {s n : Nat} {v : Value} {xs : List Value} (h : w.ownsRow B e s v n xs) (hb : Below w.heap.size w w') : w'.ownsRow B e s v n xs :=
  h.kept (row := none) ⟨hb.os, hb.tape, hb.output, hb.size, fun k hk _ => hb.block k hk⟩ (by cases v.ownBlock <;> simp)
theorem own_mono {w : World} {B B' : Nat} {e : TypeId} {s n : Nat} {v : Value} {xs : List Value} (h : w.ownsRow B' e s v n xs) (hb : B ≤ B') : w.ownsRow B e s v n xs :=
  ⟨h.1, h.2.imp id (fun ⟨g, cap, cur, a, b, r⟩ => ⟨g, cap, cur, a, Nat.le_trans hb b, r⟩)⟩
theorem own_cell {w : World} {B g c : Nat} {e : TypeId} {s n : Nat} {f : Nat → List Value} (h : w.ownsRow B e s (.slice (some ⟨g, 0, none⟩) n c) n (rowg f n)) (hs : ∀ i, (f i).length = s) {i j : Nat} {u : Value} (hi : i < n) (hj : (f i)[j]? = some u) :
    w.cell? ⟨g, i * s + j, none⟩ = some u := by
  have hj2 : j < s := by rw [← hs i]; exact (List.getElem?_eq_some_iff.1 hj).1
  have hlt : i * s + j < n * s := by
    have : (i + 1) * s ≤ n * s := Nat.mul_le_mul_right _ (by omega)
    rw [Nat.add_mul, Nat.one_mul] at this
    omega
  rw [h.cellAt _ hlt, rowg_at f hs n i j hi hj2, hj]
theorem grown_alloc (w : World) (o : Obj) (row : Option Nat) : w.grownBy (w.alloc o) row := ⟨rfl, rfl, rfl, by simp, fun i hi _ => Below.heap_alloc w o i hi⟩
theorem grown_below {w w' : World} (hb : Below w.heap.size w w') (row : Option Nat) : w.grownBy w' row := ⟨hb.os, hb.tape, hb.output, hb.size, fun i hi _ => hb.block i hi⟩
/-- block g holds just these cells -/
def Bk (w : World) (g : Nat) (t : TypeId) (cs : Array Value) : Prop := w.heap[g]? = some (.cells cs t (0, 0))
section
variable {w w' : World} {g : Nat} {t : TypeId} {cs : Array Value}
theorem Bk.lt (h : Bk w g t cs) : g < w.heap.size := by
  rcases Nat.lt_or_ge g w.heap.size with hlt | hge
  · exact hlt
  · unfold Bk at h; rw [Array.getElem?_eq_none hge] at h; cases h
theorem Bk.keep (h : Bk w g t cs) (hb : Below w.heap.size w w') : Bk w' g t cs := (hb.block g h.lt).trans h
theorem Bk.grown {row : Option Nat} (h : Bk w g t cs) (hb : w.grownBy w' row) (hne : some g ≠ row) : Bk w' g t cs := (hb.block g h.lt hne).trans h
theorem Bk.cell (h : Bk w g t cs) (j : Nat) {u : Value} (hj : cs[j]? = some u) : w.cell? ⟨g, j, none⟩ = some u := by
  unfold Bk at h; rw [cell_of_row w g j _ _ _ h]; exact hj
theorem Bk.frozen (h : Bk w g t cs) (j : Nat) : w.frozen? ⟨g, j, none⟩ = false := by
  unfold Bk at h; exact frozen_of_row w g j _ _ h
theorem Bk.set_ (h : Bk w g t cs) (i : Nat) (u : Value) : Bk (w.setCell ⟨g, i, none⟩ u) g t (cs.setIfInBounds i u) := heap_setCell_same w g i cs t u h
theorem Bk.far (h : Bk w g t cs) {p : Addr} (hp : g ≠ p.block) (u : Value) : Bk (w.setCell p u) g t cs := (heap_setCell_other w p g u hp).trans h
theorem Bk.ne_row {B n s : Nat} {e : TypeId} {v : Value} {xs : List Value} (h : Bk w g t cs) (ho : w.ownsRow B e s v n xs) (hne : t ≠ e) : some g ≠ v.ownBlock := by
  rcases ho.2 with ⟨rfl, _⟩ | ⟨g', cap, cur, rfl, _, hh, _⟩
  · simp [Value.ownBlock]
  · intro he
    have : g = g' := by simpa [Value.ownBlock] using he
    subst this
    unfold Bk at h
    rw [h] at hh
    simp at hh
    exact hne hh.2
theorem Bk.fars {b : Nat} (hne : g ≠ b) : ∀ (vs : List Value) (o : Nat) {w : World}, Bk w g t cs → Bk (w.setCells b o vs) g t cs
  | [], _, _, h => h
  | v :: r, o, w, h => by rw [World.setCells]; exact Bk.fars hne r (o + 1) (h.far (p := ⟨b, o, none⟩) hne v)
theorem Bk.there_ (h : Bk w g t cs) {n : Nat} (hn : n = cs.size) : w.there g 0 n := fun j hj => by
  subst hn
  unfold Bk at h
  rw [Nat.zero_add, cell_of_row w g j _ _ _ h, frozen_of_row w g j _ _ h]
  simp [hj]
end
theorem own_fars {B n s b : Nat} {e : TypeId} {v : Value} {xs : List Value} (hne : v.ownBlock ≠ some b) : ∀ (vs : List Value) (o : Nat) {w : World}, w.ownsRow B e s v n xs → (w.setCells b o vs).ownsRow B e s v n xs
  | [], _, _, h => h
  | u :: r, o, w, h => by rw [World.setCells]; exact own_fars hne r (o + 1) (ownsRow_setCell_other h (a := ⟨b, o, none⟩) hne u)
theorem results_cell_mid {P : Program} {fn : Func} {p : Tmp} {ty : TypeId} (h : fn.results = #[.cell p ty]) (tmps : Array Value) (w : World) (g o : Nat) (cs : List Value) (d : TypeDesc)
    (hp : tmps.getD p undef = .pointer (some ⟨g, o, none⟩)) (hc : w.rangeAt g o cs)
    (hu : P.underlying ty = some d) (hd : d.isRow = true) (hi : (P.info? ty).map (·.size) = some cs.length) :
    (results fn tmps).run P w = .ok (.agg cs.toArray) w := by
  have hp' : tmps[p]?.getD undef = .pointer (some ⟨g, o, none⟩) := by simpa using hp
  simp [results, h, hp', asAddr, run_loadVar_mid w g o ty cs d hc hu hd hi]
theorem results_cell_mid2 {P : Program} {fn : Func} {p t : Tmp} {ty : TypeId} (h : fn.results = #[.cell p ty, .tmp t]) (tmps : Array Value) (w : World) (g o : Nat) (cs : List Value) (d : TypeDesc)
    (hp : tmps.getD p undef = .pointer (some ⟨g, o, none⟩)) (hc : w.rangeAt g o cs)
    (hu : P.underlying ty = some d) (hd : d.isRow = true) (hi : (P.info? ty).map (·.size) = some cs.length) :
    (results fn tmps).run P w = .ok (.tuple #[.agg cs.toArray, tmps.getD t undef]) w := by
  have hp' : tmps[p]?.getD undef = .pointer (some ⟨g, o, none⟩) := by simpa using hp
  simp [results, h, hp', asAddr, run_loadVar_mid w g o ty cs d hc hu hd hi]
end Go.Proofs.Ytbpnmiedomchpaa.Rg
