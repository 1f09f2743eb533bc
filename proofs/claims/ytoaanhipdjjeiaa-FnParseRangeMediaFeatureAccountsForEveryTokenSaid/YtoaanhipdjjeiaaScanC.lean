import Derived.Test.YtoaanhipdjjeiaaScanB
import Derived.Lib.SliceRun
namespace Go.Proofs.Ytoaanhipdjjeiaa.Scan
open Go.ChangeShapes Go.WideShapes Go.ChangeAt Go.RowKit Go.Deep
set_option linter.unusedVariables false
theorem later {w1 w2 : World} (hb : Below w1.heap.size w1 w2) {p : Addr} {v : Value} (h : w1.cell? p = some v) : w2.cell? p = some v := (hb.cell (World.block_lt_of_cell? w1 p h)).trans h
theorem alloc_cell {w : World} {p : Addr} {v : Value} (h : w.cell? p = some v) : ∀ o, (w.alloc o).cell? p = some v := fun o => by
  rw [World.cell?_alloc_lt w o p (World.block_lt_of_cell? w p h)]; exact h
theorem Toks.keep {w w' : World} {a : Option Addr} {n : Nat} {K S L : Nat → Int} {T : Nat → ByteArray} (h : Toks w a n K S L T) (hb : Below w.heap.size w w') : Toks w' a n K S L T := by
  intro i hi
  obtain ⟨ab, ao, e, ⟨c0, c1, c2, c3⟩, r⟩ := h i hi
  exact ⟨ab, ao, e, ⟨later hb c0, later hb c1, later hb c2, later hb c3⟩, r⟩
theorem run_make_rowN {P : Program} (t e : TypeId) (i : TypeInfo) (z : Value) (ht : P.underlying t = some (.slice e)) (hi : P.info? e = some i) (hz : i.zero = some z)
    (kl kc : IntKind) (n c : Nat) (hnc : n ≤ c) (hbytes : i.bytes * c ≤ 281474976710656) (h63 : c ≤ 9223372036854775807) (w : World) :
    (Instr.makeSlice t (.int kl (n : Int)) (.int kc (c : Int))).run P w = .ok (.slice (some ⟨w.heap.size, 0, none⟩) n c) (w.alloc (.cells (madeCells z.cells (c * i.size)) e)) := by
  have hb : (i.bytes : Int) * (c : Int) ≤ 281474976710656 := by
    have h : ((i.bytes * c : Nat) : Int) ≤ 281474976710656 := by omega
    rwa [Int.natCast_mul] at h
  have hr := run_make (P := P) w t e i z ht hi hz kl kc n c (by omega) (by omega) hb (by omega)
  simp only [Int.toNat_natCast] at hr
  exact hr
theorem info72 : (Try.prog.info? 45).map (fun i => (i.zero, i.size, i.bytes)) = some (some (.agg #[.int .u8 0, .string ⟨#[]⟩, .int .u8 0, .int .i32 0]), 4, 32) := by kernel_rfl
theorem info57 : (Try.prog.info? 43).map (fun i => (i.zero, i.size, i.bytes)) = some (some (.agg #[.pointer none, .string ⟨#[]⟩, .int .i32 0, .int .u32 0, .int .u16 0, .int .u8 0, .int .u8 0]), 7, 40) := by kernel_rfl
theorem set_same {w : World} {g o : Nat} {v : Value} (h : (w.cell? ⟨g, o, none⟩).isSome = true) : (w.setCell ⟨g, o, none⟩ v).cell? ⟨g, o, none⟩ = some v := World.cell?_setCell_same' w _ v h
theorem set_far {w : World} {g o o' : Nat} {v x : Value} (hne : o' ≠ o) (h : w.cell? ⟨g, o, none⟩ = some v) : (w.setCell ⟨g, o', none⟩ x).cell? ⟨g, o, none⟩ = some v := by
  rw [World.cell?_setCell_other]
  · exact h
  · intro e; injection e with _ e2; exact hne e2
theorem set_some {w : World} {p q : Addr} {x : Value} (h : (w.cell? q).isSome = true) : ((w.setCell p x).cell? q).isSome = true := by
  obtain ⟨v, hv⟩ := Option.isSome_iff_exists.1 h
  obtain ⟨v', hv'⟩ := cell?_setCell_some (p := p) (x := x) hv
  rw [hv']; rfl
/-- block g: a row of n ZTok, of which the first k are set -/
def QR (B g n k : Nat) (K S L : Nat → Int) (T : Nat → ByteArray) (w0 w : World) : Prop :=
  (∀ j, j < k → w.cell? ⟨g, j * 4, none⟩ = some (.int .u8 (K j)) ∧ w.cell? ⟨g, j * 4 + 1, none⟩ = some (.string (T j)) ∧ w.cell? ⟨g, j * 4 + 2, none⟩ = some (.int .u8 (S j)) ∧ w.cell? ⟨g, j * 4 + 3, none⟩ = some (.int .i32 (L j))) ∧
  (∀ o, o < n * 4 → (w.cell? ⟨g, o, none⟩).isSome = true) ∧ (∀ o, w.frozen? ⟨g, o, none⟩ = false) ∧ B ≤ g ∧ g < w.heap.size ∧ Below B w0 w
theorem QR.put {B g n k : Nat} {K S L : Nat → Int} {T : Nat → ByteArray} {w0 w : World} (h : QR B g n k K S L T w0 w) (hk : k < n) : QR B g n (k + 1) K S L T w0 ((((w.setCell ⟨g, k * 4, none⟩ (.int .u8 (K k))).setCell ⟨g, k * 4 + 1, none⟩ (.string (T k))).setCell ⟨g, k * 4 + 2, none⟩ (.int .u8 (S k))).setCell ⟨g, k * 4 + 3, none⟩ (.int .i32 (L k))) := by
  obtain ⟨h1, h2, h3, h4, h5, h6⟩ := h
  have s0 := h2 (k * 4) (by omega)
  have s1 := h2 (k * 4 + 1) (by omega)
  have s2 := h2 (k * 4 + 2) (by omega)
  have s3 := h2 (k * 4 + 3) (by omega)
  refine ⟨fun j hj => ?_, fun o ho => set_some (set_some (set_some (set_some (h2 o ho)))), fun o => by simp only [World.frozen?_setCell]; exact h3 o, h4, by simpa [World.setCell] using h5, (((h6.setCell h4 _).setCell h4 _).setCell h4 _).setCell h4 _⟩
  by_cases hjk : j = k
  · subst hjk
    exact ⟨set_far (by omega) (set_far (by omega) (set_far (by omega) (set_same s0))), set_far (by omega) (set_far (by omega) (set_same (set_some s1))), set_far (by omega) (set_same (set_some (set_some s2))), set_same (set_some (set_some (set_some s3)))⟩
  · obtain ⟨a, b, c, d⟩ := h1 j (by omega)
    exact ⟨set_far (by omega) (set_far (by omega) (set_far (by omega) (set_far (by omega) a))), set_far (by omega) (set_far (by omega) (set_far (by omega) (set_far (by omega) b))), set_far (by omega) (set_far (by omega) (set_far (by omega) (set_far (by omega) c))), set_far (by omega) (set_far (by omega) (set_far (by omega) (set_far (by omega) d)))⟩
theorem QR.drewP {B g n k : Nat} {K S L : Nat → Int} {T : Nat → ByteArray} {w0 w : World} (h : QR B g n k K S L T w0 w) : QR B g n k K S L T w0 w.drew := by
  obtain ⟨h1, h2, h3, h4, h5, h6⟩ := h
  exact ⟨h1, h2, h3, h4, h5, h6.drew⟩
def Cloned (n : Nat) (K S L : Nat → Int) (T : Nat → ByteArray) (w : World) (e : Ending) (w' : World) : Prop := ∃ a c, e = .returned (.slice a n c) ∧ Toks w' a n K S L T ∧ Below w.heap.size w w'
set_option maxRecDepth 100000 in
set_option maxHeartbeats 1000000 in
theorem clone_any (a : Option Addr) (n c : Nat) (K S L : Nat → Int) (T : Nat → ByteArray) (w : World) (h : Toks w a n K S L T) (hn : (n : Int) ≤ 16384) :
    Calls Try.prog 6 #[.slice a n c] w (Cloned n K S L T w) := by
  have hq : ∀ W n' c', (binOp .eql 22 (.slice a n c) (.slice none n' c')).run Try.prog W = .ok (.bool a.isNone) W := fun W n' c' => Lib.run_eql_slice_nil W 22 45 a n c n' c' (by kernel_rfl)
  obtain ⟨i0, hi, hz0, hz1, hz2⟩ := info_parts info72
  have hmk := fun W => run_make_rowN (P := Try.prog) 22 45 i0 _ (by kernel_rfl) hi hz0 .i64 .i64 n n (Nat.le_refl _) (by rw [hz2]; omega) (by omega) W
  rw [hz1] at hmk
  have H := Lib.hid h
  clear h
  cases a with
  | none =>
    have hn0 : n = 0 := by
      by_cases h0 : n = 0
      · exact h0
      · obtain ⟨_, _, e, _⟩ := H.out 0 (by omega)
        cases e
    subst hn0
    clear hmk
    go_enter Try.func6, Try.ntmps6
    go_wp2
    go_ret
    exact ⟨none, 0, rfl, fun i hi => by omega, Below.refl _ _⟩
  | some x =>
    go_enter Try.func6, Try.ntmps6
    go_wp2
    have hT0 : QR w.heap.size w.heap.size n 0 K S L T w (w.alloc (.cells (madeCells #[.int .u8 0, .string ⟨#[]⟩, .int .u8 0, .int .i32 0] (n * 4)) 45)) := by
      refine ⟨fun j hj => by omega, fun o ho => ?_, fun o => by simp, Nat.le_refl _, by simp, (Below.refl _ _).alloc (Nat.le_refl _) _⟩
      simp [madeCells, ho]
    generalize World.alloc w _ = w1 at hT0 ⊢
    have HT0 := Lib.hid hT0
    clear hT0 hmk hi hz0 hz1 hz2 hq
    go_loopw [4] (fun i wr => ∃ k : Nat, k ≤ n ∧ i = .int .i64 k ∧ Hid (QR w.heap.size w.heap.size n k K S L T w wr)) (fun i _ => n - (intOf i).toNat)
    case atStart => exact ⟨0, Nat.zero_le _, rfl, HT0⟩
    case round =>
      clear HT0
      obtain ⟨k, hk, rfl, HT⟩ := hrel
      by_cases hlt : k < n
      · obtain ⟨ab, ao, hx, ⟨r0, r1, r2, r3⟩, _⟩ := H.out k hlt
        simp only [Option.some.injEq] at hx
        subst hx
        have bel := HT.out.2.2.2.2.2
        have t0 := (bel.cell (p := ⟨ab, ao + k * 4, none⟩) (World.block_lt_of_cell? w _ r0)).trans r0
        have t1 := (bel.cell (p := ⟨ab, ao + k * 4 + 1, none⟩) (World.block_lt_of_cell? w _ r1)).trans r1
        have t2 := (bel.cell (p := ⟨ab, ao + k * 4 + 2, none⟩) (World.block_lt_of_cell? w _ r2)).trans r2
        have t3 := (bel.cell (p := ⟨ab, ao + k * 4 + 3, none⟩) (World.block_lt_of_cell? w _ r3)).trans r3
        have q0 : (0 : Int) ≤ k := by omega
        have q1 : (k : Int) < n := by omega
        clear r0 r1 r2 r3 bel
        obtain ⟨v0, e0⟩ := Option.isSome_iff_exists.1 (HT.out.2.1 (k * 4) (by omega))
        obtain ⟨v1, e1⟩ := Option.isSome_iff_exists.1 (HT.out.2.1 (k * 4 + 1) (by omega))
        obtain ⟨v2, e2⟩ := Option.isSome_iff_exists.1 (HT.out.2.1 (k * 4 + 2) (by omega))
        obtain ⟨v3, e3⟩ := Option.isSome_iff_exists.1 (HT.out.2.1 (k * 4 + 3) (by omega))
        have hf := HT.out.2.2.1
        have HP := Lib.hid (HT.out.put hlt)
        go_wp2
        exact ⟨⟨k + 1, by omega, by go_num, HP⟩, by simp [intOf]; omega⟩
      · obtain rfl : k = n := by omega
        go_wp2
        go_ret
        obtain ⟨h1, h2, h3, h4, h5, h6⟩ := HT.out
        refine ⟨_, _, rfl, fun i hi => ?_, h6⟩
        obtain ⟨_, _, _, _, r⟩ := H.out i hi
        obtain ⟨c0, c1, c2, c3⟩ := h1 i hi
        exact ⟨w.heap.size, 0, rfl, by simp only [Nat.zero_add]; exact ⟨c0, c1, c2, c3⟩, r⟩
end Go.Proofs.Ytoaanhipdjjeiaa.Scan
