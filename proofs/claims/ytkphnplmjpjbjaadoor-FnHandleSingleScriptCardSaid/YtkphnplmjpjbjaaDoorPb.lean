/-
  A parser that holds symbols: its block, its two maps, its two rows.
-/
import Derived.Test.YtkphnplmjpjbjaaDoorMp
namespace Go.Proofs.YtkphnplmjpjbjaaDoor.Sy
open Go.ChangeShapes Go.WideShapes Go.ChangeAt Go.RowKit Rg
open Go.ChangeMaps (setBlock heap_setBlock_same heap_setBlock_other)
set_option linter.unusedVariables false
/-- the parser's cells -/
def parA (ml : Bool) (v v2 : Value) (m1 m2 : Nat) : Array Value :=
  #[.nilFunc, .nilFunc, .nilFunc, .nilFunc, .int .i8 0, .map none, .string ⟨#[]⟩, .string ⟨#[]⟩, .string ⟨#[]⟩, .string ⟨#[]⟩, .string ⟨#[]⟩, .string ⟨#[]⟩, .string ⟨#[]⟩, .string ⟨#[]⟩, .int .u8 0, .int .u32 0,
   .slice none 0 0, .slice none 0 0, .slice none 0 0, .slice none 0 0, .slice none 0 0, v, .map none, v2, .map (some m1), .map (some m2), .map none, .string ⟨#[]⟩, .string ⟨#[]⟩, .string ⟨#[]⟩,
   .int .i32 0, .int .i32 0, .int .i32 0, .int .i32 0, .bool false, .bool false, .bool false, .slice none 0 0, .slice none 0 0, .slice none 0 0, .slice none 0 0, .int .i64 0, .int .i64 0, .int .i64 0, .int .i64 0, .int .i32 0, .map none,
   .string ⟨#[]⟩, .int .u16 0, .bool false, .bool false, .bool false, .int .u8 0, .bool false, .bool ml, .bool false]
def symR (k : Int) (x : ByteArray × Int) : List Value := [.pointer none, .string x.1, .int .u32 4294967295, .int .u32 4294967295, .int .u32 x.2, .int .u32 0, .int .u32 0, .int .u16 0, .int .u8 k, .int .u8 0]
def kdv (ml : Bool) : Int := if ml then 26 else 25
def symF (ml : Bool) (S : List (ByteArray × Int)) (i : Nat) : List Value := symR (kdv ml) (S.getD i (⟨#[]⟩, 0))
def lrF (i : Nat) : List Value := [.int .i32 0, .int .u32 0, .int .u32 (i : Int)]
theorem symF_len (ml : Bool) (S : List (ByteArray × Int)) (i : Nat) : (symF ml S i).length = 10 := rfl
theorem lrF_len (i : Nat) : (lrF i).length = 3 := rfl
/-- behind InvalidRef's block -/
abbrev IB : Nat := 1 + 1
structure PB (w : World) (p : Nat) (ml : Bool) (v v2 : Value) (m1 m2 : Nat) (S : List (ByteArray × Int)) (M : List ByteArray) (n : Nat) : Prop where
  par : Bk w p 86 (parA ml v v2 m1 m2)
  mp1 : w.heap[m1]? = some (mpO (if ml then M else []))
  mp2 : w.heap[m2]? = some (mpO (if ml then [] else M))
  syms : w.ownsRow IB 99 10 v S.length (rowg (symF ml S) S.length)
  locs : w.ownsRow IB 104 3 v2 n (rowg lrF n)
  ne : m1 ≠ m2
/-- the blocks that a parser owns -/
def Own (p : Nat) (v v2 : Value) (m1 m2 : Nat) (i : Nat) : Prop := i = p ∨ i = m1 ∨ i = m2 ∨ v.ownBlock = some i ∨ v2.ownBlock = some i
theorem heap_lt {w : World} {i : Nat} {o : Obj} (h : w.heap[i]? = some o) : i < w.heap.size := by
  rcases Nat.lt_or_ge i w.heap.size with hlt | hge
  · exact hlt
  · rw [Array.getElem?_eq_none hge] at h; cases h
section
variable {w w' : World} {p : Nat} {ml : Bool} {v v2 v' : Value} {m1 m2 : Nat} {S : List (ByteArray × Int)} {M : List ByteArray} {n : Nat}
theorem PB.own_lt (h : PB w p ml v v2 m1 m2 S M n) : ∀ i, Own p v v2 m1 m2 i → i < w.heap.size := by
  rintro i (rfl | rfl | rfl | hi | hi)
  · exact h.par.lt
  · exact heap_lt h.mp1
  · exact heap_lt h.mp2
  · exact (h.syms.lt i hi).2
  · exact (h.locs.lt i hi).2
theorem own_same {B s n : Nat} {e : TypeId} {v : Value} {xs : List Value} (h : w.ownsRow B e s v n xs) (hs : ∀ i, v.ownBlock = some i → w'.heap[i]? = w.heap[i]?) : w'.ownsRow B e s v n xs := by
  refine ⟨h.1, ?_⟩
  rcases h.2 with h2 | ⟨g, cap, cur, rfl, hb, hg, r⟩
  · exact .inl h2
  · exact .inr ⟨g, cap, cur, rfl, hb, (hs g rfl).trans hg, r⟩
theorem PB.same (h : PB w p ml v v2 m1 m2 S M n) (hs : ∀ i, Own p v v2 m1 m2 i → w'.heap[i]? = w.heap[i]?) : PB w' p ml v v2 m1 m2 S M n :=
  ⟨(hs p (.inl rfl)).trans h.par, (hs m1 (.inr (.inl rfl))).trans h.mp1, (hs m2 (.inr (.inr (.inl rfl)))).trans h.mp2,
    own_same h.syms (fun i hi => hs i (.inr (.inr (.inr (.inl hi))))), own_same h.locs (fun i hi => hs i (.inr (.inr (.inr (.inr hi))))), h.ne⟩
theorem PB.keep (h : PB w p ml v v2 m1 m2 S M n) (hb : Below w.heap.size w w') : PB w' p ml v v2 m1 m2 S M n := h.same fun i hi => hb.block i (h.own_lt i hi)
theorem PB.p_ne1 (h : PB w p ml v v2 m1 m2 S M n) : p ≠ m1 := fun e => by have h1 := h.mp1; rw [← e] at h1; have h2 := h.par; unfold Bk at h2; rw [h2] at h1; simp [mpO] at h1
theorem PB.p_ne2 (h : PB w p ml v v2 m1 m2 S M n) : p ≠ m2 := fun e => by have h1 := h.mp2; rw [← e] at h1; have h2 := h.par; unfold Bk at h2; rw [h2] at h1; simp [mpO] at h1
theorem row_ne_map {B s n m : Nat} {e : TypeId} {v : Value} {xs : List Value} {es : List ByteArray} (h : w.ownsRow B e s v n xs) (hm : w.heap[m]? = some (mpO es)) : v.ownBlock ≠ some m := by
  rcases h.2 with ⟨rfl, _⟩ | ⟨g, cap, cur, rfl, hb, hg, r⟩
  · simp [Value.ownBlock]
  · intro e2
    have : g = m := by simpa [Value.ownBlock] using e2
    subst this
    rw [hm] at hg
    simp [mpO] at hg
theorem row_ne_row {B B' s s' n n' : Nat} {e e' : TypeId} {v v2 : Value} {xs ys : List Value} (h : w.ownsRow B e s v n xs) (h2 : w.ownsRow B' e' s' v2 n' ys) (hne : e ≠ e') {i : Nat} (hi : v.ownBlock = some i) : v2.ownBlock ≠ some i := by
  rcases h.2 with ⟨rfl, _⟩ | ⟨g, cap, cur, rfl, hb, hg, r⟩
  · simp [Value.ownBlock] at hi
  · have e1 : g = i := by simpa [Value.ownBlock] using hi
    subst e1
    rcases h2.2 with ⟨rfl, _⟩ | ⟨g2, cap2, cur2, rfl, hb2, hg2, r2⟩
    · simp [Value.ownBlock]
    · intro e2
      have : g2 = g := by simpa [Value.ownBlock] using e2
      subst this
      rw [hg] at hg2
      simp at hg2
      exact hne hg2.2
theorem set_at {α : Type} (a : Array α) (i : Nat) (x : α) : a.setIfInBounds i x = a.setIfInBounds i x := rfl
theorem heap_setCell_ne (w : World) (g o i : Nat) (u : Value) (h : i ≠ g) : (w.setCell ⟨g, o, none⟩ u).heap[i]? = w.heap[i]? := heap_setCell_other w ⟨g, o, none⟩ i u h
theorem symF_snoc (ml : Bool) (S : List (ByteArray × Int)) (x : ByteArray × Int) : rowg (symF ml (S ++ [x])) (S ++ [x]).length = rowg (symF ml S) S.length ++ symR (kdv ml) x := by
  rw [List.length_append, List.length_singleton, rowg_succ]
  congr 1
  · exact rowg_congr _ fun j hj => by unfold symF; rw [List.getD_eq_getElem?_getD, List.getD_eq_getElem?_getD, List.getElem?_append_left hj]
  · unfold symF; rw [List.getD_eq_getElem?_getD, List.getElem?_append_right (Nat.le_refl _)]; simp
theorem PB.c15 (h : PB w p ml v v2 m1 m2 S M n) : w.cell? ⟨p, 15, none⟩ = some (.int .u32 0) := h.par.cell 15 rfl
theorem PB.c21 (h : PB w p ml v v2 m1 m2 S M n) : w.cell? ⟨p, 21, none⟩ = some v := h.par.cell 21 rfl
theorem PB.c23 (h : PB w p ml v v2 m1 m2 S M n) : w.cell? ⟨p, 23, none⟩ = some v2 := h.par.cell 23 rfl
theorem PB.c24 (h : PB w p ml v v2 m1 m2 S M n) : w.cell? ⟨p, 24, none⟩ = some (.map (some m1)) := h.par.cell 24 rfl
theorem PB.c25 (h : PB w p ml v v2 m1 m2 S M n) : w.cell? ⟨p, 25, none⟩ = some (.map (some m2)) := h.par.cell 25 rfl
theorem PB.c54 (h : PB w p ml v v2 m1 m2 S M n) : w.cell? ⟨p, 54, none⟩ = some (.bool ml) := h.par.cell 54 rfl
/-- a symbol is appended -/
theorem PB.app1 {x : ByteArray × Int} (h : PB w p ml v v2 m1 m2 S M n) (hg : w.grownBy w' v.ownBlock) (ho : w'.ownsRow IB 99 10 v' (S.length + 1) (rowg (symF ml S) S.length ++ symR (kdv ml) x)) :
    PB (w'.setCell ⟨p, 21, none⟩ v') p ml v' v2 m1 m2 (S ++ [x]) M n := by
  have hk : ∀ i, (i = p ∨ i = m1 ∨ i = m2 ∨ v2.ownBlock = some i) → w'.heap[i]? = w.heap[i]? := fun i hi => by
    refine hg.block i (h.own_lt i ?_) ?_
    · rcases hi with e | e | e | e
      · exact .inl e
      · exact .inr (.inl e)
      · exact .inr (.inr (.inl e))
      · exact .inr (.inr (.inr (.inr e)))
    · rcases hi with rfl | rfl | rfl | e
      · exact h.par.ne_row h.syms (by decide)
      · exact fun e => row_ne_map h.syms h.mp1 e.symm
      · exact fun e => row_ne_map h.syms h.mp2 e.symm
      · exact fun e2 => row_ne_row h.locs h.syms (by decide) e e2.symm
  have hpar : Bk w' p 86 (parA ml v v2 m1 m2) := (hk p (.inl rfl)).trans h.par
  refine ⟨hpar.set_ 21 v', ?_, ?_, ?_, ?_, h.ne⟩
  · rw [heap_setCell_ne _ _ _ _ _ h.p_ne1.symm]; exact (hk m1 (.inr (.inl rfl))).trans h.mp1
  · rw [heap_setCell_ne _ _ _ _ _ h.p_ne2.symm]; exact (hk m2 (.inr (.inr (.inl rfl)))).trans h.mp2
  · rw [symF_snoc, List.length_append, List.length_singleton]
    exact ownsRow_setCell_other ho (a := ⟨p, 21, none⟩) (fun e => hpar.ne_row ho (by decide) e.symm) v'
  · exact ownsRow_setCell_other (own_same h.locs fun i hi => hk i (.inr (.inr (.inr hi)))) (a := ⟨p, 21, none⟩) (fun e => h.par.ne_row h.locs (by decide) e.symm) v'
/-- a local symbol is appended -/
theorem PB.app2 (h : PB w p ml v v2 m1 m2 S M n) (hg : w.grownBy w' v2.ownBlock) (ho : w'.ownsRow IB 104 3 v' (n + 1) (rowg lrF n ++ lrF n)) :
    PB (w'.setCell ⟨p, 23, none⟩ v') p ml v v' m1 m2 S M (n + 1) := by
  have hk : ∀ i, (i = p ∨ i = m1 ∨ i = m2 ∨ v.ownBlock = some i) → w'.heap[i]? = w.heap[i]? := fun i hi => by
    refine hg.block i (h.own_lt i ?_) ?_
    · rcases hi with e | e | e | e
      · exact .inl e
      · exact .inr (.inl e)
      · exact .inr (.inr (.inl e))
      · exact .inr (.inr (.inr (.inl e)))
    · rcases hi with rfl | rfl | rfl | e
      · exact h.par.ne_row h.locs (by decide)
      · exact fun e => row_ne_map h.locs h.mp1 e.symm
      · exact fun e => row_ne_map h.locs h.mp2 e.symm
      · exact fun e2 => row_ne_row h.syms h.locs (by decide) e e2.symm
  have hpar : Bk w' p 86 (parA ml v v2 m1 m2) := (hk p (.inl rfl)).trans h.par
  refine ⟨hpar.set_ 23 v', ?_, ?_, ?_, ?_, h.ne⟩
  · rw [heap_setCell_ne _ _ _ _ _ h.p_ne1.symm]; exact (hk m1 (.inr (.inl rfl))).trans h.mp1
  · rw [heap_setCell_ne _ _ _ _ _ h.p_ne2.symm]; exact (hk m2 (.inr (.inr (.inl rfl)))).trans h.mp2
  · exact ownsRow_setCell_other (own_same h.syms fun i hi => hk i (.inr (.inr (.inr hi)))) (a := ⟨p, 23, none⟩) (fun e => h.par.ne_row h.syms (by decide) e.symm) v'
  · rw [rowg_succ]
    exact ownsRow_setCell_other ho (a := ⟨p, 23, none⟩) (fun e => hpar.ne_row ho (by decide) e.symm) v'
def mOf (ml : Bool) (m1 m2 : Nat) : Nat := if ml then m1 else m2
theorem PB.mp (h : PB w p ml v v2 m1 m2 S M n) : w.heap[mOf ml m1 m2]? = some (mpO M) := by
  cases ml
  · exact h.mp2
  · exact h.mp1
/-- a name is put into the table -/
theorem PB.put (h : PB w p ml v v2 m1 m2 S M n) (s : ByteArray) : PB (setBlock w (mOf ml m1 m2) (mpO (M ++ [s]))) p ml v v2 m1 m2 S (M ++ [s]) n := by
  have hs := heap_setBlock_same h.mp (mpO (M ++ [s]))
  have hk : ∀ i, i ≠ mOf ml m1 m2 → (setBlock w (mOf ml m1 m2) (mpO (M ++ [s]))).heap[i]? = w.heap[i]? := fun i hi => heap_setBlock_other h.mp _ hi
  have hp : p ≠ mOf ml m1 m2 := by cases ml; exact h.p_ne2; exact h.p_ne1
  refine ⟨(hk p hp).trans h.par, ?_, ?_, own_same h.syms fun i hi => hk i ?_, own_same h.locs fun i hi => hk i ?_, h.ne⟩
  · cases ml
    · exact (hk m1 h.ne).trans h.mp1
    · exact hs
  · cases ml
    · exact hs
    · exact (hk m2 h.ne.symm).trans h.mp2
  · rintro rfl; exact row_ne_map h.syms h.mp hi
  · rintro rfl; exact row_ne_map h.locs h.mp hi
theorem rowg_set {f f' : Nat → List Value} {s : Nat} (hs : ∀ i, (f i).length = s) {i j : Nat} {u : Value} (hi : f' i = (f i).set j u) (hj : j < s) (ho : ∀ k, k ≠ i → f' k = f k) : ∀ n, i < n → (rowg f n).set (i * s + j) u = rowg f' n
  | 0, h => absurd h (by omega)
  | n + 1, h => by
    rw [rowg_succ, rowg_succ]
    have hl := rowg_len f hs n
    by_cases e : i = n
    · subst e
      rw [List.set_append_right _ _ (by omega), hl, Nat.add_sub_cancel_left, ← hi, rowg_congr i fun k hk => (ho k (by omega)).symm]
    · have hlt : i * s + j < n * s := by
        have : (i + 1) * s ≤ n * s := Nat.mul_le_mul_right _ (by omega)
        rw [Nat.add_mul, Nat.one_mul] at this
        omega
      rw [List.set_append_left _ _ (by omega), rowg_set hs hi hj ho n (by omega), ho n (fun e2 => e e2.symm)]
/-- a use is counted -/
theorem PB.inc {g cap i : Nat} {u : Int} (h : PB w p ml (.slice (some ⟨g, 0, none⟩) S.length cap) v2 m1 m2 S M n) (hi : i < S.length) :
    PB (w.setCell ⟨g, i * 10 + 4, none⟩ (.int .u32 u)) p ml (.slice (some ⟨g, 0, none⟩) S.length cap) v2 m1 m2 (S.set i (((S.getD i (⟨#[]⟩, 0)).1), u)) M n := by
  have hst := h.syms.stored (i * 10 + 4) (.int .u32 u)
  have hgp : p ≠ g := fun e => h.par.ne_row h.syms (by decide) (by rw [e]; rfl)
  refine ⟨h.par.far hgp _, ?_, ?_, ?_, ?_, h.ne⟩
  · rw [heap_setCell_ne]; exact h.mp1; exact fun e => row_ne_map h.syms h.mp1 (by rw [e]; rfl)
  · rw [heap_setCell_ne]; exact h.mp2; exact fun e => row_ne_map h.syms h.mp2 (by rw [e]; rfl)
  · rw [List.length_set]
    have hr := rowg_set (f := symF ml S) (f' := symF ml (S.set i (((S.getD i (⟨#[]⟩, 0)).1), u))) (symF_len ml S) (i := i) (j := 4) (u := .int .u32 u) (by
      unfold symF
      rw [List.getD_eq_getElem?_getD (l := S.set _ _), List.getElem?_set_self hi]; rfl) (by omega) (fun k hk => by
      unfold symF
      rw [List.getD_eq_getElem?_getD, List.getElem?_set_ne (fun e => hk e.symm), List.getD_eq_getElem?_getD]) S.length hi
    rw [← hr]
    exact hst.1
  · exact ownsRow_setCell_other h.locs (a := ⟨g, i * 10 + 4, none⟩) (fun e => row_ne_row h.locs h.syms (by decide) e rfl) _
theorem PB.use (h : PB w p ml v v2 m1 m2 S M n) {i : Nat} (hi : i < S.length) : ∃ g cap, v = .slice (some ⟨g, 0, none⟩) S.length cap ∧ w.cell? ⟨g, i * 10 + 4, none⟩ = some (.int .u32 (S.getD i (⟨#[]⟩, 0)).2) ∧
    w.cell? ⟨g, i * 10 + 1, none⟩ = some (.string (S.getD i (⟨#[]⟩, 0)).1) ∧ w.cell? ⟨g, i * 10 + 8, none⟩ = some (.int .u8 (kdv ml)) ∧ (∀ j, w.frozen? ⟨g, j, none⟩ = false) ∧ g < w.heap.size := by
  obtain ⟨g, cap, rfl, _, hlt⟩ := h.syms.form (by omega)
  exact ⟨g, cap, rfl, own_cell h.syms (symF_len ml S) hi rfl, own_cell h.syms (symF_len ml S) hi rfl, own_cell h.syms (symF_len ml S) hi rfl, fun j => h.syms.frozenAt j, hlt⟩
end
/-- outside X nothing old has turned -/
def Off (X : Nat → Prop) (w w' : World) : Prop := w'.os = w.os ∧ w'.tape = w.tape ∧ w'.output = w.output ∧ w.heap.size ≤ w'.heap.size ∧ ∀ i, i < w.heap.size → ¬ X i → w'.heap[i]? = w.heap[i]?
section
variable {X X' : Nat → Prop} {w w1 w2 w' : World}
theorem Off.refl (X : Nat → Prop) (w : World) : Off X w w := ⟨rfl, rfl, rfl, Nat.le_refl _, fun _ _ _ => rfl⟩
theorem Off.trans (h : Off X w w1) (h2 : Off X' w1 w2) (hX : ∀ i, X' i → X i ∨ w.heap.size ≤ i) : Off X w w2 :=
  ⟨h2.1.trans h.1, h2.2.1.trans h.2.1, h2.2.2.1.trans h.2.2.1, Nat.le_trans h.2.2.2.1 h2.2.2.2.1, fun i hi hn =>
    (h2.2.2.2.2 i (Nat.lt_of_lt_of_le hi h.2.2.2.1) (fun hx => (hX i hx).elim hn (fun hge => by omega))).trans (h.2.2.2.2 i hi hn)⟩
theorem Off.of_below (hb : Below w.heap.size w w') : Off X w w' := ⟨hb.os, hb.tape, hb.output, hb.size, fun i hi _ => hb.block i hi⟩
theorem Off.below (h : Off X w w') {B : Nat} (hX : ∀ i, X i → B ≤ i) (hB : B ≤ w.heap.size) : Below B w w' :=
  ⟨h.1, h.2.1, h.2.2.1, h.2.2.2.1, fun i hi => h.2.2.2.2 i (Nat.lt_of_lt_of_le hi hB) (fun hx => by have := hX i hx; omega)⟩
theorem Off.of_grown {row : Option Nat} (hg : w.grownBy w' row) (hX : ∀ g, row = some g → X g) : Off X w w' :=
  ⟨hg.os, hg.tape, hg.output, hg.size, fun i hi hn => hg.block i hi (fun e => hn (hX i e.symm))⟩
theorem Off.of_setCell (w : World) (g o : Nat) (u : Value) (hX : X g) : Off X w (w.setCell ⟨g, o, none⟩ u) :=
  ⟨rfl, rfl, rfl, by simp [World.setCell], fun i _ hn => heap_setCell_ne w g o i u (fun e => hn (by rw [e]; exact hX))⟩
theorem Off.of_setBlock {b : Nat} {es : List ByteArray} (hb : w.heap[b]? = some (mpO es)) (o : Obj) (hX : X b) : Off X w (setBlock w b o) :=
  ⟨rfl, rfl, rfl, by simp [setBlock], fun i _ hn => heap_setBlock_other hb o (fun e => hn (by rw [e]; exact hX))⟩
theorem Off.keep_bk (h : Off X w w') {g : Nat} {t : TypeId} {cs : Array Value} (hk : Bk w g t cs) (hn : ¬ X g) : Bk w' g t cs := (h.2.2.2.2 g hk.lt hn).trans hk
end
/-- a parser with symbols S, its blocks in X -/
def PS (w : World) (X : Nat → Prop) (p : Nat) (ml : Bool) (S : List (ByteArray × Int)) : Prop :=
  ∃ v v2 m1 m2, PB w p ml v v2 m1 m2 S (S.map (·.1)) (if ml then S.length else 0) ∧ ∀ i, Own p v v2 m1 m2 i → X i
theorem PS.keep {w w' : World} {X : Nat → Prop} {p : Nat} {ml : Bool} {S : List (ByteArray × Int)} (h : PS w X p ml S) (hb : Below w.heap.size w w') : PS w' X p ml S := by
  obtain ⟨v, v2, m1, m2, h1, h2⟩ := h
  exact ⟨v, v2, m1, m2, h1.keep hb, h2⟩
theorem PS.off {w w' : World} {X Y : Nat → Prop} {p : Nat} {ml : Bool} {S : List (ByteArray × Int)} (h : PS w X p ml S) (ho : Off Y w w') (hd : ∀ i, X i → ¬ Y i) : PS w' X p ml S := by
  obtain ⟨v, v2, m1, m2, h1, h2⟩ := h
  exact ⟨v, v2, m1, m2, h1.same fun i hi => ho.2.2.2.2 i (h1.own_lt i hi) (hd i (h2 i hi)), h2⟩
/-- the symbols behind a call with name s -/
def addS (s : ByteArray) (S : List (ByteArray × Int)) : List (ByteArray × Int) := match ixF s (S.map (·.1)) with
  | some j => S.set j ((S.getD j (⟨#[]⟩, 0)).1, (S.getD j (⟨#[]⟩, 0)).2 + 1)
  | none => S ++ [(s, 1)]
/-- the place of name s behind the call -/
def plS (s : ByteArray) (S : List (ByteArray × Int)) : Nat := (ixF s (S.map (·.1))).getD S.length
end Go.Proofs.YtkphnplmjpjbjaaDoor.Sy
