/-
  The parser's cursor functions (at, current, peek, advance, eat) over a token list: their contracts.
-/
import Derived.Test.YtfbmomnfbkdbbabRows
import Derived.WalkKit
import Derived.ProofKit
import Derived.OpenShut
import Derived.Below
import Derived.Lib.Hide
import Derived.Outline
import Derived.WalkLawsBesides
import Derived.RegionTactic
namespace Go.Proofs.Ytfbmomnfbkdbbab.Pars
open Go.ChangeShapes Go.WideShapes Go.ChangeAt Go.RowKit
set_option linter.unusedVariables false
theorem later {w1 w2 : World} (hb : Below w1.heap.size w1 w2) {p : Addr} {v : Value} (h : w1.cell? p = some v) : w2.cell? p = some v := (hb.cell (World.block_lt_of_cell? w1 p h)).trans h
theorem alloc_cell {w : World} {p : Addr} {v : Value} (h : w.cell? p = some v) : ∀ o, (w.alloc o).cell? p = some v := fun o => by
  rw [World.cell?_alloc_lt w o p (World.block_lt_of_cell? w p h)]; exact h
/-- the parser in block b at cursor i: its text, its token list in block g: token j begins at S j, is L j long, its kind is K j; below B the world is as w0 was -/
def PS (B b g n : Nat) (S L K : Nat → Int) (C : ByteArray) (i : Int) (w0 w : World) : Prop :=
  (w.cell? ⟨b, 16, none⟩ = some (.slice (some ⟨g, 0, none⟩) n n) ∧ w.cell? ⟨b, 42, none⟩ = some (.int .i64 i) ∧ w.frozen? ⟨b, 42, none⟩ = false ∧ w.cell? ⟨b, 9, none⟩ = some (.string C)) ∧
  (∀ j, j < n → w.cell? ⟨g, j * 5, none⟩ = some (.int .i32 (S j)) ∧ w.cell? ⟨g, j * 5 + 1, none⟩ = some (.int .i32 (L j)) ∧ w.cell? ⟨g, j * 5 + 2, none⟩ = some (.int .u16 0) ∧ w.cell? ⟨g, j * 5 + 3, none⟩ = some (.int .u8 (K j)) ∧ w.cell? ⟨g, j * 5 + 4, none⟩ = some (.int .u8 0)) ∧
  b ≠ g ∧ B ≤ b ∧ Below B w0 w
section
variable {B b g n : Nat} {S L K : Nat → Int} {C : ByteArray} {i : Int} {w0 w w' : World}
theorem PS.lt (h : PS B b g n S L K C i w0 w) : b < w.heap.size := World.block_lt_of_cell? w _ h.1.1
theorem PS.keep (h : PS B b g n S L K C i w0 w) (hb : Below w.heap.size w w') : PS B b g n S L K C i w0 w' := by
  have hlt := h.lt
  obtain ⟨⟨h1, h2, h3, h4⟩, h5, h6, h7, h8⟩ := h
  exact ⟨⟨later hb h1, later hb h2, by rw [hb.frozen (p := ⟨b, 42, none⟩) hlt]; exact h3, later hb h4⟩, fun j hj => by
    obtain ⟨a, b, c, d, e⟩ := h5 j hj
    exact ⟨later hb a, later hb b, later hb c, later hb d, later hb e⟩, h6, h7, h8.trans (hb.mono (by omega))⟩
theorem PS.drewP (h : PS B b g n S L K C i w0 w) : PS B b g n S L K C i w0 w.drew := by
  obtain ⟨⟨h1, h2, h3, h4⟩, h5, h6, h7, h8⟩ := h
  exact ⟨⟨h1, h2, h3, h4⟩, h5, h6, h7, h8.drew⟩
theorem PS.move (h : PS B b g n S L K C i w0 w) (i' : Int) : PS B b g n S L K C i' w0 (w.setCell ⟨b, 42, none⟩ (.int .i64 i')) := by
  obtain ⟨⟨h1, h2, h3, h4⟩, h5, h6, h7, h8⟩ := h
  have far : ∀ (g' o : Nat) (v : Value), (g' ≠ b ∨ o ≠ 42) → w.cell? ⟨g', o, none⟩ = some v → (w.setCell ⟨b, 42, none⟩ (.int .i64 i')).cell? ⟨g', o, none⟩ = some v := by
    intro g' o v hne hc
    rw [World.cell?_setCell_other]
    · exact hc
    · intro e
      injection e with e1 e2
      rcases hne with hne | hne
      · exact hne e1.symm
      · exact hne e2.symm
  refine ⟨⟨far _ _ _ (.inr (by decide)) h1, World.cell?_setCell_same' w _ _ (by rw [h2]; rfl), by rw [World.frozen?_setCell]; exact h3, far _ _ _ (.inr (by decide)) h4⟩, fun j hj => ?_, h6, h7, h8.setCell h7 _⟩
  obtain ⟨a, b', c, d, e⟩ := h5 j hj
  exact ⟨far _ _ _ (.inl h6.symm) a, far _ _ _ (.inl h6.symm) b', far _ _ _ (.inl h6.symm) c, far _ _ _ (.inl h6.symm) d, far _ _ _ (.inl h6.symm) e⟩
end
def nextI (n c : Nat) : Nat := if c < n then c + 1 else c
/-- what 'at' shows at place i -/
def kindAt (n : Nat) (K : Nat → Int) (i : Nat) : Int := if i < n then K i else 0
def startAt (n : Nat) (S : Nat → Int) (C : ByteArray) (i : Nat) : Int := if i < n then S i else wrap32 C.size
def lenAt (n : Nat) (L : Nat → Int) (i : Nat) : Int := if i < n then L i else 0
def tokAt (n : Nat) (S L K : Nat → Int) (C : ByteArray) (i : Nat) : Value := .agg #[.int .i32 (startAt n S C i), .int .i32 (lenAt n L i), .int .u16 0, .int .u8 (kindAt n K i), .int .u8 0]
set_option maxRecDepth 100000 in
set_option maxHeartbeats 1000000 in
theorem at_any (B b g n : Nat) (S L K : Nat → Int) (C : ByteArray) (c : Int) (w0 w : World) (h : PS B b g n S L K C c w0 w) (x : Int) (i : Nat) (hx : x = i) :
    Calls Try.prog 18 #[.pointer (some ⟨b, 0, none⟩), .int .i64 x] w fun e w' => e = .returned (tokAt n S L K C i) ∧ Below w.heap.size w w' := by
  subst hx
  have h1 := alloc_cell h.1.1
  by_cases hlt : i < n
  · obtain ⟨c0, c1, c2, c3, c4⟩ := h.2.1 i hlt
    have k0 := alloc_cell c0
    have k1 := alloc_cell c1
    have k2 := alloc_cell c2
    have k3 := alloc_cell c3
    have k4 := alloc_cell c4
    have e : tokAt n S L K C i = .agg #[.int .i32 (S i), .int .i32 (L i), .int .u16 0, .int .u8 (K i), .int .u8 0] := by
      simp [tokAt, startAt, lenAt, kindAt, hlt]
    rw [e]
    have p1 : (0 : Int) ≤ i := by omega
    have p2 : (i : Int) < n := by omega
    clear h c0 c1 c2 c3 c4 e
    generalize S i = s at *
    generalize L i = l at *
    generalize K i = k at *
    go_enter Try.func18, Try.ntmps18
    go_wp2
    refine bodyPost_ret (v := .agg #[.int .i32 s, .int .i32 l, .int .u16 0, .int .u8 k, .int .u8 0]) (by simp [results, Try.results18, go_sem]) rfl ⟨rfl, ?_⟩
    exact (Below.refl _ _).alloc (Nat.le_refl _) _
  · have h9 := alloc_cell h.1.2.2.2
    have e : tokAt n S L K C i = .agg #[.int .i32 (wrap32 C.size), .int .i32 0, .int .u16 0, .int .u8 0, .int .u8 0] := by
      simp [tokAt, startAt, lenAt, kindAt, hlt]
    rw [e]
    have p2 : (n : Int) ≤ i := by omega
    clear h e
    go_enter Try.func18, Try.ntmps18
    go_wp2
    refine bodyPost_ret (v := .agg #[.int .i32 (wrap32 C.size), .int .i32 0, .int .u16 0, .int .u8 0, .int .u8 0]) (by simp [results, Try.results18, go_sem]) rfl ⟨rfl, ?_⟩
    exact (Below.refl _ _).alloc (Nat.le_refl _) _
set_option maxRecDepth 100000 in
set_option maxHeartbeats 1000000 in
theorem current_any (B b g n : Nat) (S L K : Nat → Int) (C : ByteArray) (c : Nat) (w0 w : World) (h : PS B b g n S L K C c w0 w) :
    Calls Try.prog 17 #[.pointer (some ⟨b, 0, none⟩)] w fun e w' => e = .returned (tokAt n S L K C c) ∧ Below w.heap.size w w' := by
  have h1 := alloc_cell h.1.2.1
  have H := Lib.hid h
  clear h
  go_enter Try.func17, Try.ntmps17
  go_wp2_with fail
  clear h1
  refine (at_any B b g n S L K C c w0 _ (H.out.keep ((Below.refl _ _).alloc (Nat.le_refl _) _)) _ c rfl).mono ?_
  rintro e w1 ⟨rfl, hb⟩
  have q0 := hb.cell (p := ⟨w.heap.size, 0, none⟩) (by simp)
  have q1 := hb.cell (p := ⟨w.heap.size, 1, none⟩) (by simp)
  have q2 := hb.cell (p := ⟨w.heap.size, 2, none⟩) (by simp)
  have q3 := hb.cell (p := ⟨w.heap.size, 3, none⟩) (by simp)
  have q4 := hb.cell (p := ⟨w.heap.size, 4, none⟩) (by simp)
  have f0 := hb.frozen (p := ⟨w.heap.size, 0, none⟩) (by simp)
  have f1 := hb.frozen (p := ⟨w.heap.size, 1, none⟩) (by simp)
  have f2 := hb.frozen (p := ⟨w.heap.size, 2, none⟩) (by simp)
  have f3 := hb.frozen (p := ⟨w.heap.size, 3, none⟩) (by simp)
  have f4 := hb.frozen (p := ⟨w.heap.size, 4, none⟩) (by simp)
  have hz := hb.size
  have hB : Below w.heap.size w w1 := ((Below.refl _ _).alloc (Nat.le_refl _) _).trans (hb.mono (by simp))
  simp [go_sem] at q0 q1 q2 q3 q4 f0 f1 f2 f3 f4 hz
  clear hb H
  obtain ⟨s, hs⟩ : ∃ s, s = startAt n S C c := ⟨_, rfl⟩
  obtain ⟨l, hl⟩ : ∃ s, s = lenAt n L c := ⟨_, rfl⟩
  obtain ⟨k, hk⟩ : ∃ s, s = kindAt n K c := ⟨_, rfl⟩
  have ht : tokAt n S L K C c = .agg #[.int .i32 s, .int .i32 l, .int .u16 0, .int .u8 k, .int .u8 0] := by rw [hs, hl, hk]; rfl
  rw [ht]
  have HT := Lib.hid ht
  clear ht hs hl hk
  go_wp2
  refine bodyPost_ret (v := .agg #[.int .i32 s, .int .i32 l, .int .u16 0, .int .u8 k, .int .u8 0]) (by simp [results, Try.results17, go_sem, q0, q1, q2, q3, q4]) rfl ⟨by rw [HT.out], ?_⟩
  exact ((((hB.setCell (Nat.le_refl _) _).setCell (Nat.le_refl _) _).setCell (Nat.le_refl _) _).setCell (Nat.le_refl _) _).setCell (Nat.le_refl _) _
theorem field_kind (s l k : Int) (w : World) : (Instr.field 33 (.agg #[.int .i32 s, .int .i32 l, .int .u16 0, .int .u8 k, .int .u8 0]) 2).run Try.prog w = .ok (.int .u8 k) w := by kernel_rfl
set_option maxRecDepth 100000 in
set_option maxHeartbeats 1000000 in
theorem peek_any (B b g n : Nat) (S L K : Nat → Int) (C : ByteArray) (c : Nat) (w0 w : World) (h : PS B b g n S L K C c w0 w) (x : Int) (y : Bool) (hy : (x == kindAt n K c) = y) :
    Calls Try.prog 20 #[.pointer (some ⟨b, 0, none⟩), .int .u8 x] w fun e w' => e = .returned (.bool y) ∧ Below w.heap.size w w' := by
  have H := Lib.hid h
  have HY := Lib.hid hy
  clear h hy
  go_enter Try.func20, Try.ntmps20
  go_wp2_with fail
  refine (current_any B b g n S L K C c w0 _ H.out).mono ?_
  rintro e w1 ⟨rfl, hb⟩
  have hy := HY.out
  unfold tokAt
  generalize startAt n S C c = s
  generalize lenAt n L c = l
  generalize kindAt n K c = k at *
  clear HY H
  have hf := field_kind s l k
  go_wp2
  go_ret
  exact ⟨rfl, hb⟩
set_option maxRecDepth 100000 in
set_option maxHeartbeats 1000000 in
theorem advance_any (B b g n : Nat) (S L K : Nat → Int) (C : ByteArray) (c : Nat) (w0 w : World) (h : PS B b g n S L K C c w0 w) (hn : (n : Int) ≤ 1048576) :
    Calls Try.prog 21 #[.pointer (some ⟨b, 0, none⟩)] w fun e w' => e = .returned (.tuple #[]) ∧ PS B b g n S L K C (nextI n c : Int) w0 w' := by
  have h1 := h.1.1
  have h2 := h.1.2.1
  have h3 := h.1.2.2.1
  have H := Lib.hid h
  clear h
  by_cases hlt : c < n
  · rw [show nextI n c = c + 1 from if_pos hlt]
    have p : (c : Int) < n := by omega
    have pd : decide ((c : Int) < n) = true := by simp; omega
    go_enter Try.func21, Try.ntmps21
    go_wp2
    go_region
    all_goals go_wp2
    all_goals go_end0
    all_goals exact ⟨rfl, (H.out.move (c + 1)).drewP⟩
  · rw [show nextI n c = c from if_neg hlt]
    have p : (n : Int) ≤ c := by omega
    have pd : decide ((c : Int) < n) = false := by simp; omega
    go_enter Try.func21, Try.ntmps21
    go_wp2
    go_region
    all_goals go_wp2
    all_goals go_end0
    all_goals exact ⟨rfl, H.out.drewP⟩
set_option maxRecDepth 100000 in
set_option maxHeartbeats 1000000 in
theorem eat_no (B b g n : Nat) (S L K : Nat → Int) (C : ByteArray) (c : Nat) (w0 w : World) (h : PS B b g n S L K C c w0 w) (x : Int) (hy : (x == kindAt n K c) = false) :
    Calls Try.prog 16 #[.pointer (some ⟨b, 0, none⟩), .int .u8 x] w fun e w' => e = .returned (.bool false) ∧ PS B b g n S L K C c w0 w' := by
  have H := Lib.hid h
  have HY := Lib.hid hy
  clear h hy
  go_enter Try.func16, Try.ntmps16
  go_wp2_with fail
  refine (peek_any B b g n S L K C c w0 _ H.out x false HY.out).mono ?_
  rintro e w1 ⟨rfl, hb⟩
  go_wp2
  go_ret
  exact ⟨rfl, H.out.keep hb⟩
set_option maxRecDepth 100000 in
set_option maxHeartbeats 1000000 in
theorem eat_yes (B b g n : Nat) (S L K : Nat → Int) (C : ByteArray) (c : Nat) (w0 w : World) (h : PS B b g n S L K C c w0 w) (hn : (n : Int) ≤ 1048576) (x : Int) (hy : (x == kindAt n K c) = true) :
    Calls Try.prog 16 #[.pointer (some ⟨b, 0, none⟩), .int .u8 x] w fun e w' => e = .returned (.bool true) ∧ PS B b g n S L K C (nextI n c : Int) w0 w' := by
  have H := Lib.hid h
  have HY := Lib.hid hy
  clear h hy
  go_enter Try.func16, Try.ntmps16
  go_wp2_with fail
  refine (peek_any B b g n S L K C c w0 _ H.out x true HY.out).mono ?_
  rintro e w1 ⟨rfl, hb⟩
  have H1 := Lib.hid (H.out.keep hb)
  clear H HY hb
  go_wp2_with fail
  refine (advance_any B b g n S L K C c w0 _ H1.out hn).mono ?_
  rintro e w2 ⟨rfl, hp⟩
  have H2 := Lib.hid hp
  clear hp H1
  go_wp2
  go_ret
  exact ⟨rfl, H2.out⟩
theorem zeat_no (B b g n : Nat) (S L K : Nat → Int) (C : ByteArray) (c : Nat) (w0 w : World) (h : PS B b g n S L K C c w0 w) (x : Int) (hy : (x == kindAt n K c) = false) :
    Calls Try.prog 8 #[.pointer (some ⟨b, 0, none⟩), .int .u8 x] w fun e w' => e = .returned (.bool false) ∧ PS B b g n S L K C c w0 w' := by
  have H := Lib.hid h
  have HY := Lib.hid hy
  clear h hy
  go_enter Try.func8, Try.ntmps8
  go_wp2_with fail
  refine (eat_no B b g n S L K C c w0 _ H.out x HY.out).mono ?_
  rintro e w1 ⟨rfl, hp⟩
  have H2 := Lib.hid hp
  clear hp H HY
  go_wp2
  go_ret
  exact ⟨rfl, H2.out⟩
theorem zeat_yes (B b g n : Nat) (S L K : Nat → Int) (C : ByteArray) (c : Nat) (w0 w : World) (h : PS B b g n S L K C c w0 w) (hn : (n : Int) ≤ 1048576) (x : Int) (hy : (x == kindAt n K c) = true) :
    Calls Try.prog 8 #[.pointer (some ⟨b, 0, none⟩), .int .u8 x] w fun e w' => e = .returned (.bool true) ∧ PS B b g n S L K C (nextI n c : Int) w0 w' := by
  have H := Lib.hid h
  have HY := Lib.hid hy
  clear h hy
  go_enter Try.func8, Try.ntmps8
  go_wp2_with fail
  refine (eat_yes B b g n S L K C c w0 _ H.out hn x HY.out).mono ?_
  rintro e w1 ⟨rfl, hp⟩
  have H2 := Lib.hid hp
  clear hp H HY
  go_wp2
  go_ret
  exact ⟨rfl, H2.out⟩
theorem zindex (B b g n : Nat) (S L K : Nat → Int) (C : ByteArray) (c : Int) (w0 w : World) (h : PS B b g n S L K C c w0 w) :
    Calls Try.prog 9 #[.pointer (some ⟨b, 0, none⟩)] w fun e w' => e = .returned (.int .i64 c) ∧ w = w' := by
  have h2 := h.1.2.1
  clear h
  go_enter Try.func9, Try.ntmps9
  go_wp2
  go_ret
  exact ⟨rfl, rfl⟩
end Go.Proofs.Ytfbmomnfbkdbbab.Pars
