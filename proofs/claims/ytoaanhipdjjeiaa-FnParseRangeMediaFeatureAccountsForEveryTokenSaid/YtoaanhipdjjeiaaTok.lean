import Derived.Test.YtoaanhipdjjeiaaScanC
import Derived.WalkSmall
namespace Go.Proofs.Ytoaanhipdjjeiaa.Scan
open Go.ChangeShapes Go.WideShapes Go.ChangeAt Go.RowKit Go.Deep
set_option linter.unusedVariables false
/-- block g: a row of n tokens, of which the first k are set -/
def CT (B g n k : Nat) (K S L : Nat → Int) (T : Nat → ByteArray) (w0 w : World) : Prop :=
  (∀ j, j < n → w.cell? ⟨g, j * 7, none⟩ = some (.pointer none) ∧ w.cell? ⟨g, j * 7 + 3, none⟩ = some (.int .u32 0) ∧ w.cell? ⟨g, j * 7 + 4, none⟩ = some (.int .u16 0)) ∧
  (∀ j, j < k → w.cell? ⟨g, j * 7 + 1, none⟩ = some (.string (T j)) ∧ w.cell? ⟨g, j * 7 + 2, none⟩ = some (.int .i32 (L j)) ∧ w.cell? ⟨g, j * 7 + 5, none⟩ = some (.int .u8 (K j)) ∧ w.cell? ⟨g, j * 7 + 6, none⟩ = some (.int .u8 (S j))) ∧
  (∀ o, o < n * 7 → (w.cell? ⟨g, o, none⟩).isSome = true) ∧ (∀ o, w.frozen? ⟨g, o, none⟩ = false) ∧ B ≤ g ∧ g < w.heap.size ∧ Below B w0 w
theorem CT.put {B g n k : Nat} {K S L : Nat → Int} {T : Nat → ByteArray} {w0 w : World} (h : CT B g n k K S L T w0 w) (hk : k < n) : CT B g n (k + 1) K S L T w0 ((((w.setCell ⟨g, k * 7 + 5, none⟩ (.int .u8 (K k))).setCell ⟨g, k * 7 + 1, none⟩ (.string (T k))).setCell ⟨g, k * 7 + 6, none⟩ (.int .u8 (S k))).setCell ⟨g, k * 7 + 2, none⟩ (.int .i32 (L k))) := by
  obtain ⟨h0, h1, h2, h3, h4, h5, h6⟩ := h
  have s0 := h2 (k * 7 + 5) (by omega)
  have s1 := h2 (k * 7 + 1) (by omega)
  have s2 := h2 (k * 7 + 6) (by omega)
  have s3 := h2 (k * 7 + 2) (by omega)
  refine ⟨fun j hj => ?_, fun j hj => ?_, fun o ho => set_some (set_some (set_some (set_some (h2 o ho)))), fun o => by simp only [World.frozen?_setCell]; exact h3 o, h4, by simpa [World.setCell] using h5, (((h6.setCell h4 _).setCell h4 _).setCell h4 _).setCell h4 _⟩
  · obtain ⟨a, b, c⟩ := h0 j hj
    exact ⟨set_far (by omega) (set_far (by omega) (set_far (by omega) (set_far (by omega) a))), set_far (by omega) (set_far (by omega) (set_far (by omega) (set_far (by omega) b))), set_far (by omega) (set_far (by omega) (set_far (by omega) (set_far (by omega) c)))⟩
  · by_cases hjk : j = k
    · subst hjk
      exact ⟨set_far (by omega) (set_far (by omega) (set_same (set_some s1))), set_same (set_some (set_some (set_some s3))), set_far (by omega) (set_far (by omega) (set_far (by omega) (set_same s0))), set_far (by omega) (set_same (set_some (set_some s2)))⟩
    · obtain ⟨a, b, c, d⟩ := h1 j (by omega)
      exact ⟨set_far (by omega) (set_far (by omega) (set_far (by omega) (set_far (by omega) a))), set_far (by omega) (set_far (by omega) (set_far (by omega) (set_far (by omega) b))), set_far (by omega) (set_far (by omega) (set_far (by omega) (set_far (by omega) c))), set_far (by omega) (set_far (by omega) (set_far (by omega) (set_far (by omega) d)))⟩
/-- block g: n tokens; from token p on their whitespace is S -/
def TB (B g n p : Nat) (K S L : Nat → Int) (T : Nat → ByteArray) (w0 w : World) : Prop :=
  (∀ j, j < n → w.cell? ⟨g, j * 7, none⟩ = some (.pointer none) ∧ w.cell? ⟨g, j * 7 + 1, none⟩ = some (.string (T j)) ∧ w.cell? ⟨g, j * 7 + 2, none⟩ = some (.int .i32 (L j)) ∧ w.cell? ⟨g, j * 7 + 3, none⟩ = some (.int .u32 0) ∧ w.cell? ⟨g, j * 7 + 4, none⟩ = some (.int .u16 0) ∧ w.cell? ⟨g, j * 7 + 5, none⟩ = some (.int .u8 (K j)) ∧ ∃ s, w.cell? ⟨g, j * 7 + 6, none⟩ = some (.int .u8 s)) ∧
  (∀ j, p ≤ j → j < n → w.cell? ⟨g, j * 7 + 6, none⟩ = some (.int .u8 (S j))) ∧ (∀ o, w.frozen? ⟨g, o, none⟩ = false) ∧ B ≤ g ∧ g < w.heap.size ∧ Below B w0 w
section
variable {B g n p : Nat} {K S L : Nat → Int} {T : Nat → ByteArray} {w0 w w' : World}
theorem CT.done (h : CT B g n n K S L T w0 w) : TB B g n 0 K S L T w0 w := by
  obtain ⟨h0, h1, h2, h3, h4, h5, h6⟩ := h
  refine ⟨fun j hj => ?_, fun j _ hj => (h1 j hj).2.2.2, h3, h4, h5, h6⟩
  obtain ⟨a, b, c⟩ := h0 j hj
  obtain ⟨d, e, f, q⟩ := h1 j hj
  exact ⟨a, d, e, b, c, f, _, q⟩
theorem TB.trim (h : TB B g n p K S L T w0 w) {i p' : Nat} (hi : i < p') (hp : p ≤ p') (hin : i < n) (x : Int) : TB B g n p' K S L T w0 (w.setCell ⟨g, i * 7 + 6, none⟩ (.int .u8 x)) := by
  obtain ⟨h0, h1, h3, h4, h5, h6⟩ := h
  refine ⟨fun j hj => ?_, fun j hj hn => set_far (by omega) (h1 j (by omega) hn), fun o => by simp only [World.frozen?_setCell]; exact h3 o, h4, by simpa [World.setCell] using h5, h6.setCell h4 _⟩
  obtain ⟨a, b, c, d, e, f, s, q⟩ := h0 j hj
  refine ⟨set_far (by omega) a, set_far (by omega) b, set_far (by omega) c, set_far (by omega) d, set_far (by omega) e, set_far (by omega) f, ?_⟩
  by_cases hji : j = i
  · subst hji; exact ⟨x, set_same (by rw [q]; rfl)⟩
  · exact ⟨s, set_far (by omega) q⟩
theorem TB.drewN (h : TB B g n p K S L T w0 w) (k : Nat) : TB B g n p K S L T w0 (w.drewN k) := by
  obtain ⟨h0, h1, h3, h4, h5, h6⟩ := h
  exact ⟨h0, h1, h3, h4, h5, below_drewN h6 k⟩
theorem TB.keep (h : TB B g n p K S L T w0 w) (hb : Below w.heap.size w w') : TB B g n p K S L T w0 w' := by
  obtain ⟨h0, h1, h3, h4, h5, h6⟩ := h
  refine ⟨fun j hj => ?_, fun j hj hn => later hb (h1 j hj hn), fun o => ?_, h4, Nat.lt_of_lt_of_le h5 hb.size, h6.trans (hb.mono (Nat.le_trans h4 (Nat.le_of_lt h5)))⟩
  · obtain ⟨a, b, c, d, e, f, s, q⟩ := h0 j hj
    exact ⟨later hb a, later hb b, later hb c, later hb d, later hb e, later hb f, s, later hb q⟩
  · rw [hb.frozen (p := ⟨g, o, none⟩) h5]; exact h3 o
theorem TB.more (h : TB B g n p K S L T w0 w) {p' : Nat} (hp : p ≤ p') : TB B g n p' K S L T w0 w :=
  ⟨h.1, fun j hj hn => h.2.1 j (by omega) hn, h.2.2⟩
end
def ToT (n : Nat) (K S L : Nat → Int) (T : Nat → ByteArray) (w : World) (e : Ending) (w' : World) : Prop :=
  (n = 0 ∧ e = .returned (.slice none 0 0) ∧ w = w') ∨ (e = .returned (.slice (some ⟨w.heap.size, 0, none⟩) n n) ∧ TB w.heap.size w.heap.size n 0 K S L T w w')
theorem made_at (z : Array Value) (k o r : Nat) (h : o < k) (hr : o % z.size = r) (hz : 0 < z.size) : (madeCells z k)[o]? = z[r]? := by
  unfold madeCells
  subst hr
  have h2 := Nat.mod_lt o hz
  simp [h]
  rw [getElem!_pos z _ h2, getElem?_pos z _ h2]
set_option maxRecDepth 100000 in
set_option maxHeartbeats 1000000 in
theorem totoks_any (a : Option Addr) (n c : Nat) (K S L : Nat → Int) (T : Nat → ByteArray) (w : World) (h : Toks w a n K S L T) (hn : (n : Int) ≤ 16384) :
    Calls Try.prog 8 #[.slice a n c] w (ToT n K S L T w) := by
  have hq : ∀ W n' c', (binOp .eql 22 (.slice a n c) (.slice none n' c')).run Try.prog W = .ok (.bool a.isNone) W := fun W n' c' => Lib.run_eql_slice_nil W 22 45 a n c n' c' (by kernel_rfl)
  obtain ⟨i0, hi, hz0, hz1, hz2⟩ := info_parts info57
  have hmk := fun W => run_make_rowN (P := Try.prog) 29 43 i0 _ (by kernel_rfl) hi hz0 .i64 .i64 n n (Nat.le_refl _) (by rw [hz2]; omega) (by omega) W
  rw [hz1] at hmk
  have H := Lib.hid h
  clear h
  cases a with
  | none =>
    have hn0 : n = 0 := by
      by_cases h0 : n = 0
      · exact h0
      · obtain ⟨_, _, e, _⟩ := H.out 0 (by omega)
        cases e
    subst hn0
    clear hmk
    go_enter Try.func8, Try.ntmps8
    go_wp2
    go_ret
    exact .inl ⟨rfl, rfl, rfl⟩
  | some x =>
    go_enter Try.func8, Try.ntmps8
    go_wp2
    have hT0 : CT w.heap.size w.heap.size n 0 K S L T w (w.alloc (.cells (madeCells #[.pointer none, .string ⟨#[]⟩, .int .i32 0, .int .u32 0, .int .u16 0, .int .u8 0, .int .u8 0] (n * 7)) 43)) := by
      refine ⟨fun j hj => ⟨?_, ?_, ?_⟩, fun j hj => by omega, fun o ho => ?_, fun o => by simp, Nat.le_refl _, by simp, (Below.refl _ _).alloc (Nat.le_refl _) _⟩
      · have := made_at #[.pointer none, .string ⟨#[]⟩, .int .i32 0, .int .u32 0, .int .u16 0, .int .u8 0, .int .u8 0] (n * 7) (j * 7) 0 (by omega) (by simp) (by decide)
        simpa using this
      · have := made_at #[.pointer none, .string ⟨#[]⟩, .int .i32 0, .int .u32 0, .int .u16 0, .int .u8 0, .int .u8 0] (n * 7) (j * 7 + 3) 3 (by omega) (by simp) (by decide)
        simpa using this
      · have := made_at #[.pointer none, .string ⟨#[]⟩, .int .i32 0, .int .u32 0, .int .u16 0, .int .u8 0, .int .u8 0] (n * 7) (j * 7 + 4) 4 (by omega) (by simp) (by decide)
        simpa using this
      · simp [madeCells, ho]
    generalize World.alloc w _ = w1 at hT0 ⊢
    have HT0 := Lib.hid hT0
    clear hT0 hmk hi hz0 hz1 hz2 hq
    go_loopw [4] (fun i wr => ∃ k : Nat, k ≤ n ∧ i = .int .i64 k ∧ Hid (CT w.heap.size w.heap.size n k K S L T w wr)) (fun i _ => n - (intOf i).toNat)
    case atStart => exact ⟨0, Nat.zero_le _, rfl, HT0⟩
    case round =>
      clear HT0
      obtain ⟨k, hk, rfl, HT⟩ := hrel
      by_cases hlt : k < n
      · obtain ⟨ab, ao, hx, ⟨r0, r1, r2, r3⟩, _⟩ := H.out k hlt
        simp only [Option.some.injEq] at hx
        subst hx
        have bel := HT.out.2.2.2.2.2.2
        have t0 := (bel.cell (p := ⟨ab, ao + k * 4, none⟩) (World.block_lt_of_cell? w _ r0)).trans r0
        have t1 := (bel.cell (p := ⟨ab, ao + k * 4 + 1, none⟩) (World.block_lt_of_cell? w _ r1)).trans r1
        have t2 := (bel.cell (p := ⟨ab, ao + k * 4 + 2, none⟩) (World.block_lt_of_cell? w _ r2)).trans r2
        have t3 := (bel.cell (p := ⟨ab, ao + k * 4 + 3, none⟩) (World.block_lt_of_cell? w _ r3)).trans r3
        have hne : ab ≠ w.heap.size := by have := World.block_lt_of_cell? w _ r0; simp at this; omega
        have q0 : (0 : Int) ≤ k := by omega
        have q1 : (k : Int) < n := by omega
        clear r0 r1 r2 r3 bel
        obtain ⟨v1, e1⟩ := Option.isSome_iff_exists.1 (HT.out.2.2.1 (k * 7 + 1) (by omega))
        obtain ⟨v2, e2⟩ := Option.isSome_iff_exists.1 (HT.out.2.2.1 (k * 7 + 2) (by omega))
        obtain ⟨v3, e3⟩ := Option.isSome_iff_exists.1 (HT.out.2.2.1 (k * 7 + 5) (by omega))
        obtain ⟨v4, e4⟩ := Option.isSome_iff_exists.1 (HT.out.2.2.1 (k * 7 + 6) (by omega))
        have hf := HT.out.2.2.2.1
        have HP := Lib.hid (HT.out.put hlt)
        go_wp2
        exact ⟨⟨k + 1, by omega, by go_num, HP⟩, by simp [intOf]; omega⟩
      · obtain rfl : k = n := by omega
        go_wp2
        go_ret
        exact .inr ⟨rfl, HT.out.done⟩
end Go.Proofs.Ytoaanhipdjjeiaa.Scan
