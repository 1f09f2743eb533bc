/-
  The parser's cursor with a stack of closers: at, current, peek, advance.
-/
import Derived.Test.YtelpdhhcpdagbaaFmtMk
import Derived.RegionTactic
namespace Go.Proofs.YtelpdhhcpdagbaaFmt.Av
open Go.ChangeShapes Go.WideShapes Go.ChangeAt Go.RowKit Rg
set_option linter.unusedVariables false
/-- the parser in block b at cursor i; its stack slice v; its tokens in block g -/
def PT (b g n : Nat) (S L K : Nat → Int) (C : ByteArray) (i : Int) (v : Value) (w : World) : Prop :=
  (w.cell? ⟨b, 16, none⟩ = some (.slice (some ⟨g, 0, none⟩) n n) ∧ w.cell? ⟨b, 42, none⟩ = some (.int .i64 i) ∧ w.frozen? ⟨b, 42, none⟩ = false ∧ w.cell? ⟨b, 9, none⟩ = some (.string C) ∧ w.cell? ⟨b, 19, none⟩ = some v ∧ w.frozen? ⟨b, 19, none⟩ = false) ∧
  (∀ j, j < n → w.cell? ⟨g, j * 5, none⟩ = some (.int .i32 (S j)) ∧ w.cell? ⟨g, j * 5 + 1, none⟩ = some (.int .i32 (L j)) ∧ w.cell? ⟨g, j * 5 + 2, none⟩ = some (.int .u16 0) ∧ w.cell? ⟨g, j * 5 + 3, none⟩ = some (.int .u8 (K j)) ∧ w.cell? ⟨g, j * 5 + 4, none⟩ = some (.int .u8 0)) ∧
  b ≠ g
section
variable {b g n : Nat} {S L K : Nat → Int} {C : ByteArray} {i : Int} {v : Value} {w w' : World}
theorem PT.lt (h : PT b g n S L K C i v w) : b < w.heap.size := World.block_lt_of_cell? w _ h.1.1
theorem PT.keep (h : PT b g n S L K C i v w) (hb : Below w.heap.size w w') : PT b g n S L K C i v w' := by
  have hlt := h.lt
  obtain ⟨⟨h1, h2, h3, h4, h19, f19⟩, h5, h6⟩ := h
  exact ⟨⟨later hb h1, later hb h2, by rw [hb.frozen (p := ⟨b, 42, none⟩) hlt]; exact h3, later hb h4, later hb h19, by rw [hb.frozen (p := ⟨b, 19, none⟩) hlt]; exact f19⟩, fun j hj => by
    obtain ⟨a, b, c, d, e⟩ := h5 j hj
    exact ⟨later hb a, later hb b, later hb c, later hb d, later hb e⟩, h6⟩
theorem PT.drewP (h : PT b g n S L K C i v w) : PT b g n S L K C i v w.drew := h.keep (Below.refl _ _).drew
theorem PT.far (h : PT b g n S L K C i v w) {o g' o' : Nat} {x u : Value} (hne : g' ≠ b ∨ o' ≠ o) (hc : w.cell? ⟨g', o', none⟩ = some x) : (w.setCell ⟨b, o, none⟩ u).cell? ⟨g', o', none⟩ = some x := by
  rw [World.cell?_setCell_other]
  · exact hc
  · intro e
    injection e with e1 e2
    rcases hne with hne | hne
    · exact hne e1.symm
    · exact hne e2.symm
theorem PT.move (h : PT b g n S L K C i v w) (i' : Int) : PT b g n S L K C i' v (w.setCell ⟨b, 42, none⟩ (.int .i64 i')) := by
  have hh := h
  obtain ⟨⟨h1, h2, h3, h4, h19, f19⟩, h5, h6⟩ := h
  refine ⟨⟨hh.far (.inr (by decide)) h1, World.cell?_setCell_same' w _ _ (by rw [h2]; rfl), by rw [World.frozen?_setCell]; exact h3, hh.far (.inr (by decide)) h4, hh.far (.inr (by decide)) h19, by rw [World.frozen?_setCell]; exact f19⟩, fun j hj => ?_, h6⟩
  obtain ⟨a, b', c, d, e⟩ := h5 j hj
  exact ⟨hh.far (.inl h6.symm) a, hh.far (.inl h6.symm) b', hh.far (.inl h6.symm) c, hh.far (.inl h6.symm) d, hh.far (.inl h6.symm) e⟩
theorem PT.stack (h : PT b g n S L K C i v w) (v' : Value) : PT b g n S L K C i v' (w.setCell ⟨b, 19, none⟩ v') := by
  have hh := h
  obtain ⟨⟨h1, h2, h3, h4, h19, f19⟩, h5, h6⟩ := h
  refine ⟨⟨hh.far (.inr (by decide)) h1, hh.far (.inr (by decide)) h2, by rw [World.frozen?_setCell]; exact h3, hh.far (.inr (by decide)) h4, World.cell?_setCell_same' w _ _ (by rw [h19]; rfl), by rw [World.frozen?_setCell]; exact f19⟩, fun j hj => ?_, h6⟩
  obtain ⟨a, b', c, d, e⟩ := h5 j hj
  exact ⟨hh.far (.inl h6.symm) a, hh.far (.inl h6.symm) b', hh.far (.inl h6.symm) c, hh.far (.inl h6.symm) d, hh.far (.inl h6.symm) e⟩
end
/-- what 'at' shows at place i -/
def startAt (n : Nat) (S : Nat → Int) (C : ByteArray) (i : Nat) : Int := if i < n then S i else wrap32 C.size
def lenAt (n : Nat) (L : Nat → Int) (i : Nat) : Int := if i < n then L i else 0
def tokAt (n : Nat) (S L K : Nat → Int) (C : ByteArray) (i : Nat) : Value := .agg #[.int .i32 (startAt n S C i), .int .i32 (lenAt n L i), .int .u16 0, .int .u8 (kat n K i), .int .u8 0]
section
variable (b g n : Nat) (S L K : Nat → Int) (C : ByteArray) (v : Value) (w : World)
def TokP (i : Nat) (e : Ending) (w' : World) : Prop := e = .returned (tokAt n S L K C i) ∧ Below w.heap.size w w'
set_option maxRecDepth 100000 in
set_option maxHeartbeats 1000000 in
theorem at_any (c : Int) (h : PT b g n S L K C c v w) (x : Int) (i : Nat) (hx : x = i) :
    Calls Tryf.prog 21 #[.pointer (some ⟨b, 0, none⟩), .int .i64 x] w (TokP n S L K C w i) := by
  subst hx
  have h1 := alloc_cell h.1.1
  by_cases hlt : i < n
  · obtain ⟨c0, c1, c2, c3, c4⟩ := h.2.1 i hlt
    have k0 := alloc_cell c0
    have k1 := alloc_cell c1
    have k2 := alloc_cell c2
    have k3 := alloc_cell c3
    have k4 := alloc_cell c4
    have e : tokAt n S L K C i = .agg #[.int .i32 (S i), .int .i32 (L i), .int .u16 0, .int .u8 (K i), .int .u8 0] := by
      simp [tokAt, startAt, lenAt, kat, hlt]
    unfold TokP
    rw [e]
    have p1 : (0 : Int) ≤ i := by omega
    have p2 : (i : Int) < n := by omega
    clear h c0 c1 c2 c3 c4 e
    generalize S i = s at *
    generalize L i = l at *
    generalize K i = k at *
    go_enter Tryf.func21, Tryf.ntmps21
    go_wp2
    refine bodyPost_ret (v := .agg #[.int .i32 s, .int .i32 l, .int .u16 0, .int .u8 k, .int .u8 0]) (by simp [results, Tryf.results21, go_sem]) rfl ⟨rfl, ?_⟩
    exact (Below.refl _ _).alloc (Nat.le_refl _) _
  · have h9 := alloc_cell h.1.2.2.2.1
    have e : tokAt n S L K C i = .agg #[.int .i32 (wrap32 C.size), .int .i32 0, .int .u16 0, .int .u8 0, .int .u8 0] := by
      simp [tokAt, startAt, lenAt, kat, hlt]
    unfold TokP
    rw [e]
    have p2 : (n : Int) ≤ i := by omega
    clear h e
    go_enter Tryf.func21, Tryf.ntmps21
    go_wp2
    refine bodyPost_ret (v := .agg #[.int .i32 (wrap32 C.size), .int .i32 0, .int .u16 0, .int .u8 0, .int .u8 0]) (by simp [results, Tryf.results21, go_sem]) rfl ⟨rfl, ?_⟩
    exact (Below.refl _ _).alloc (Nat.le_refl _) _
set_option maxRecDepth 100000 in
set_option maxHeartbeats 1000000 in
theorem current_any (c : Nat) (h : PT b g n S L K C c v w) :
    Calls Tryf.prog 17 #[.pointer (some ⟨b, 0, none⟩)] w (TokP n S L K C w c) := by
  have h1 := alloc_cell h.1.2.1
  have H := Lib.hid h
  clear h
  go_enter Tryf.func17, Tryf.ntmps17
  go_wp2_with fail
  clear h1
  refine (at_any b g n S L K C v _ c (H.out.keep ((Below.refl _ _).alloc (Nat.le_refl _) _)) _ c rfl).mono ?_
  rintro e w1 ⟨rfl, hb⟩
  have q0 := hb.cell (p := ⟨w.heap.size, 0, none⟩) (by simp)
  have q1 := hb.cell (p := ⟨w.heap.size, 1, none⟩) (by simp)
  have q2 := hb.cell (p := ⟨w.heap.size, 2, none⟩) (by simp)
  have q3 := hb.cell (p := ⟨w.heap.size, 3, none⟩) (by simp)
  have q4 := hb.cell (p := ⟨w.heap.size, 4, none⟩) (by simp)
  have f0 := hb.frozen (p := ⟨w.heap.size, 0, none⟩) (by simp)
  have f1 := hb.frozen (p := ⟨w.heap.size, 1, none⟩) (by simp)
  have f2 := hb.frozen (p := ⟨w.heap.size, 2, none⟩) (by simp)
  have f3 := hb.frozen (p := ⟨w.heap.size, 3, none⟩) (by simp)
  have f4 := hb.frozen (p := ⟨w.heap.size, 4, none⟩) (by simp)
  have hz := hb.size
  have hB : Below w.heap.size w w1 := ((Below.refl _ _).alloc (Nat.le_refl _) _).trans (hb.mono (by simp))
  simp [go_sem] at q0 q1 q2 q3 q4 f0 f1 f2 f3 f4 hz
  clear hb H
  obtain ⟨s, hs⟩ : ∃ s, s = startAt n S C c := ⟨_, rfl⟩
  obtain ⟨l, hl⟩ : ∃ s, s = lenAt n L c := ⟨_, rfl⟩
  obtain ⟨k, hk⟩ : ∃ s, s = kat n K c := ⟨_, rfl⟩
  have ht : tokAt n S L K C c = .agg #[.int .i32 s, .int .i32 l, .int .u16 0, .int .u8 k, .int .u8 0] := by rw [hs, hl, hk]; rfl
  rw [ht]
  have HT := Lib.hid ht
  clear ht hs hl hk
  go_wp2
  refine bodyPost_ret (v := .agg #[.int .i32 s, .int .i32 l, .int .u16 0, .int .u8 k, .int .u8 0]) (by simp [results, Tryf.results17, go_sem, q0, q1, q2, q3, q4]) rfl ⟨by rw [HT.out], ?_⟩
  exact ((((hB.setCell (Nat.le_refl _) _).setCell (Nat.le_refl _) _).setCell (Nat.le_refl _) _).setCell (Nat.le_refl _) _).setCell (Nat.le_refl _) _
theorem field_kind (s l k : Int) (w : World) : (Instr.field 44 (.agg #[.int .i32 s, .int .i32 l, .int .u16 0, .int .u8 k, .int .u8 0]) 2).run Tryf.prog w = .ok (.int .u8 k) w := by kernel_rfl
def PeekP (y : Bool) (e : Ending) (w' : World) : Prop := e = .returned (.bool y) ∧ Below w.heap.size w w'
set_option maxRecDepth 100000 in
set_option maxHeartbeats 1000000 in
theorem peek_any (c : Nat) (h : PT b g n S L K C c v w) (x : Int) (y : Bool) (hy : (x == kat n K c) = y) :
    Calls Tryf.prog 25 #[.pointer (some ⟨b, 0, none⟩), .int .u8 x] w (PeekP w y) := by
  have H := Lib.hid h
  have HY := Lib.hid hy
  clear h hy
  go_enter Tryf.func25, Tryf.ntmps25
  go_wp2_with fail
  refine (current_any b g n S L K C v _ c H.out).mono ?_
  rintro e w1 ⟨rfl, hb⟩
  have hy := HY.out
  unfold tokAt
  generalize startAt n S C c = s
  generalize lenAt n L c = l
  generalize kat n K c = k at *
  clear HY H
  have hf := field_kind s l k
  go_wp2
  go_ret
  exact ⟨rfl, hb⟩
/-- advance, inside the list: the cursor cell alone is written -/
def AdvP (c : Nat) (e : Ending) (w' : World) : Prop := e = .returned (.tuple #[]) ∧ PT b g n S L K C (c + 1 : Nat) v w' ∧ w.grownBy w' (some b)
set_option maxRecDepth 100000 in
set_option maxHeartbeats 1000000 in
theorem advance_any (c : Nat) (h : PT b g n S L K C c v w) (hn : (n : Int) ≤ 1048576) (hlt : c < n) :
    Calls Tryf.prog 20 #[.pointer (some ⟨b, 0, none⟩)] w (AdvP b g n S L K C v w c) := by
  have h1 := h.1.1
  have h2 := h.1.2.1
  have h3 := h.1.2.2.1
  have H := Lib.hid h
  clear h
  have p : (c : Int) < n := by omega
  have pd : decide ((c : Int) < n) = true := by simp; omega
  go_enter Tryf.func20, Tryf.ntmps20
  go_wp2
  go_region
  all_goals go_wp2
  all_goals go_end0
  all_goals exact ⟨rfl, (H.out.move (c + 1)).drewP, ⟨rfl, rfl, rfl, by simp [World.setCell], fun q _ hne => heap_setCell_other w _ q _ (fun e => hne (by rw [e]))⟩⟩
end
end Go.Proofs.YtelpdhhcpdagbaaFmt.Av
