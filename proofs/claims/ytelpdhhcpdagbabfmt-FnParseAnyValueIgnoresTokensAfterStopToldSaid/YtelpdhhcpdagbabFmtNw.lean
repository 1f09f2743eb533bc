/-
  Copies of bytes, positions, the count, a parser made of kinds, starts and lengths; parseAnyValue and the index.
-/
import Derived.Test.YtelpdhhcpdagbabFmtPa
namespace Go.Proofs.YtelpdhhcpdagbabFmt.Av
open Go.ChangeShapes Go.WideShapes Go.ChangeAt Go.RowKit Rg
set_option linter.unusedVariables false
theorem run_ge (n : Nat) (K : Nat → Int) : ∀ (f : Nat) (st : List Int) (i : Nat), i ≤ run n K f st i := by
  intro f
  induction f with
  | zero => intro st i; exact Nat.le_refl _
  | succ f ih =>
    intro st i
    rw [run]
    have h1 := ih st.tail (i + 1)
    have h2 := ih st (i + 1)
    have h3 := ih (opn (kat n K i) :: st) (i + 1)
    repeat' split
    all_goals omega
theorem run_agree (n n' : Nat) (K K' : Nat → Int) (stop : Nat) (hn : stop < n) (hn' : stop < n') (hag : ∀ j, j ≤ stop → kat n' K' j = kat n K j) :
    ∀ (f f' : Nat) (st : List Int) (i : Nat), f = n - i → f' = n' - i → run n K f st i = stop → run n' K' f' st i = stop := by
  intro f
  induction f with
  | zero => intro f' st i hf hf' h; have : i = stop := h; omega
  | succ f ih =>
    intro f' st i hf hf' h
    have hi : i ≤ stop := h ▸ run_ge n K (f + 1) st i
    obtain ⟨g, rfl⟩ : ∃ g, f' = g + 1 := ⟨f' - 1, by omega⟩
    have hk := hag i hi
    have q := fun s => ih g s (i + 1) (by omega) (by omega)
    rw [run] at h ⊢
    rw [hk]
    repeat' split at h
    all_goals first | (simp only [*, if_true, if_false] ; done) | skip
    all_goals simp_all
theorem R_ge {n : Nat} {K : Nat → Int} {st : List Int} {i : Nat} : i ≤ R n K st i := run_ge _ _ _ _ _
theorem R_agree {n n' : Nat} {K K' : Nat → Int} {stop i : Nat} (h : R n K [] i = stop) (hn : stop < n) (hn' : stop < n') (hag : ∀ j, j ≤ stop → kat n' K' j = kat n K j) : R n' K' [] i = stop :=
  run_agree n n' K K' stop hn hn' hag _ _ _ _ rfl rfl h
theorem cr_other {B g n k : Nat} {X : Nat → Value} {w0 w : World} (h : CR B g n k X w0 w) {g' o : Nat} (hne : g' ≠ g) (hB : B ≤ g') (v : Value) : CR B g n k X w0 (w.setCell ⟨g', o, none⟩ v) := by
  obtain ⟨h1, h2, h3, h4, h5, h6⟩ := h
  have q : ∀ j, (w.setCell ⟨g', o, none⟩ v).cell? ⟨g, j, none⟩ = w.cell? ⟨g, j, none⟩ := fun j => by
    rw [World.cell?_setCell_other]
    intro e; injection e with e1; exact hne e1
  exact ⟨fun j hj => by rw [q]; exact h1 j hj, fun j hj => by rw [q]; exact h2 j hj, fun j => by rw [World.frozen?_setCell]; exact h3 j, h4, by simpa [World.setCell] using h5, h6.setCell hB _⟩
theorem cr_keepA {B g n k : Nat} {X : Nat → Value} {w0 w : World} (h : CR B g n k X w0 w) (o : Obj) : CR B g n k X w0 (w.alloc o) := by
  obtain ⟨h1, h2, h3, h4, h5, h6⟩ := h
  have hb : Below w.heap.size w (w.alloc o) := (Below.refl _ _).alloc (Nat.le_refl _) o
  refine ⟨fun j hj => alloc_cell (h1 j hj) o, fun j hj => ?_, fun j => ?_, h4, Nat.lt_of_lt_of_le h5 hb.size, h6.alloc (by omega) o⟩
  · obtain ⟨u, hu⟩ := Option.isSome_iff_exists.1 (h2 j hj)
    rw [alloc_cell hu o]; rfl
  · rw [hb.frozen (p := ⟨g, j, none⟩) h5]; exact h3 j
theorem cr_made_on {B : Nat} {w0 w : World} (hb : Below B w0 w) (hB : B ≤ w.heap.size) (n : Nat) (X : Nat → Value) (z : Array Value) (t : TypeId) (hz : z.size = n) : CR B w.heap.size n 0 X w0 (w.alloc (.cells z t)) :=
  ⟨fun j hj => absurd hj (by omega), fun o ho => by simp [hz, ho], fun o => by simp, hB, by simp, hb.alloc hB _⟩
theorem copy8_info : (Tryf.prog.info? 5).map (fun i => (i.zero, i.size, i.bytes)) = some (some (.int .u8 0), 1, 1) := by kernel_rfl
set_option maxRecDepth 100000 in
set_option maxHeartbeats 1000000 in
theorem copy8 (a : Option Addr) (n c : Nat) (Z : Nat → Int) (w : World) (h : Sl w a n (fun i => .int .u8 (Z i))) (h0 : a = none → n = 0) (hn : (n : Int) ≤ 1048576) :
    Calls Tryf.prog 5 #[.slice a n c] w (Clon a n (fun i => .int .u8 (Z i)) w) := by
  have hq : ∀ W n' c', (binOp .eql 22 (.slice a n c) (.slice none n' c')).run Tryf.prog W = .ok (.bool a.isNone) W := fun W n' c' => Lib.run_eql_slice_nil W 22 5 a n c n' c' (by kernel_rfl)
  obtain ⟨i0, hi, hz0, hz1, hz2⟩ := info_parts copy8_info
  have hmk := fun W => run_make_rowN (P := Tryf.prog) 22 5 i0 _ (by kernel_rfl) hi hz0 .i64 .i64 n n (Nat.le_refl _) (by rw [hz2]; omega) (by omega) W
  rw [hz1] at hmk
  have H := Lib.hid h
  clear h
  cases a with
  | none =>
    obtain rfl := h0 rfl
    clear hmk hi hz0 hz1 hz2
    go_enter Tryf.func5, Tryf.ntmps5
    go_wp2
    go_ret
    exact ⟨none, 0, rfl, Sl.none_ _ _ _, fun x hx => by simp at hx, Iff.rfl, Below.refl _ _⟩
  | some x =>
    have hT0 : CR w.heap.size w.heap.size n 0 (fun i => .int .u8 (Z i)) w (w.alloc (.cells (madeCells #[.int .u8 0] n) 5)) := CR.made w n _ _ _ (by simp [madeCells])
    clear h0
    go_enter Tryf.func5, Tryf.ntmps5
    go_wp2
    generalize World.alloc w _ = w1 at hT0 ⊢
    have HT0 := Lib.hid hT0
    clear hT0 hmk hi hz0 hz1 hz2 hq
    go_loopw [4] (fun i wr => ∃ k : Nat, k ≤ n ∧ i = .int .i64 k ∧ Hid (CR w.heap.size w.heap.size n k (fun i => .int .u8 (Z i)) w wr)) (fun i _ => n - (intOf i).toNat)
    case atStart => exact ⟨0, Nat.zero_le _, rfl, HT0⟩
    case round =>
      clear HT0
      obtain ⟨k, hk, rfl, HT⟩ := hrel
      by_cases hlt : k < n
      · obtain ⟨ab, ao, hx, r0⟩ := H.out k hlt
        simp only [Option.some.injEq] at hx
        subst hx
        have bel := HT.out.2.2.2.2.2
        have t0 : wr.cell? ⟨ab, ao + k, none⟩ = some (.int .u8 (Z k)) := (bel.cell (p := ⟨ab, ao + k, none⟩) (World.block_lt_of_cell? w _ r0)).trans r0
        have hne : ab ≠ w.heap.size := by have := World.block_lt_of_cell? w _ r0; simp at this; omega
        have q0 : (0 : Int) ≤ k := by omega
        have q1 : (k : Int) < n := by omega
        obtain ⟨v0, e0⟩ := Option.isSome_iff_exists.1 (HT.out.2.1 k (by omega))
        have hf := HT.out.2.2.1
        have HP := Lib.hid (HT.out.put hlt)
        clear r0 bel
        go_wp2
        exact ⟨⟨k + 1, by omega, by go_num, HP⟩, by simp [intOf]; omega⟩
      · obtain rfl : k = n := by omega
        go_wp2
        go_ret
        exact ⟨some ⟨w.heap.size, 0, none⟩, k, rfl, HT.out.done, fun y hy => by injection hy with hy; subst hy; exact Nat.le_refl _, by simp, HT.out.2.2.2.2.2⟩
theorem i32_info : (Tryf.prog.info? 21).map (fun i => (i.zero, i.size, i.bytes)) = some (some (.int .i32 0), 1, 4) := by kernel_rfl
def pos (i : Nat) : Int := 3 * i + 1
def PosP (n : Nat) (w : World) (e : Ending) (w' : World) : Prop := ∃ g1 g2 : Nat, e = .returned (.tuple #[.slice (some ⟨g1, 0, none⟩) n n, .slice (some ⟨g2, 0, none⟩) n n]) ∧
  Sl w' (some ⟨g1, 0, none⟩) n (fun i => .int .i32 (pos i)) ∧ Sl w' (some ⟨g2, 0, none⟩) n (fun _ => .int .i32 1) ∧ Below w.heap.size w w'
set_option maxRecDepth 100000 in
set_option maxHeartbeats 2000000 in
theorem pos_any (n : Nat) (w : World) (hn : (n : Int) ≤ 1048576) : Calls Tryf.prog 7 #[.int .i64 n] w (PosP n w) := by
  obtain ⟨i0, hi, hz0, hz1, hz2⟩ := info_parts i32_info
  have hmk := fun W => run_make_rowN (P := Tryf.prog) 26 21 i0 _ (by kernel_rfl) hi hz0 .i64 .i64 n n (Nat.le_refl _) (by rw [hz2]; omega) (by omega) W
  rw [hz1] at hmk
  have hA := CR.made w n (fun i => .int .i32 (pos i)) (madeCells #[.int .i32 0] n) 21 (by simp [madeCells])
  have hB := cr_made_on (w := w.alloc (.cells (madeCells #[.int .i32 0] n) 21)) ((Below.refl w.heap.size w).alloc (Nat.le_refl _) (.cells (madeCells #[.int .i32 0] n) 21)) (by simp) n (fun _ => .int .i32 1) (madeCells #[.int .i32 0] n) 21 (by simp [madeCells])
  have hA2 := cr_keepA hA (.cells (madeCells #[.int .i32 0] n) 21)
  have hsz : (w.alloc (.cells (madeCells #[.int .i32 0] n) 21)).heap.size = w.heap.size + 1 := by simp
  rw [hsz] at hB
  clear hA hi hz0 hz1 hz2
  go_enter Tryf.func7, Tryf.ntmps7
  go_wp2
  obtain ⟨w1, hw1⟩ : ∃ w1, w1 = w.alloc (.cells (madeCells #[.int .i32 0] n) 21) := ⟨_, rfl⟩
  obtain ⟨w2, hw2⟩ : ∃ w2, w2 = w1.alloc (.cells (madeCells #[.int .i32 0] n) 21) := ⟨_, rfl⟩
  simp only [← hw1] at hA2 hB ⊢
  simp only [← hw2] at hA2 hB ⊢
  have hl1 : w.heap.size + 1 ≤ w1.heap.size := by rw [hw1]; simp
  have HA0 := Lib.hid hA2
  have HB0 := Lib.hid hB
  clear hA2 hB hmk hw1 hw2 hsz
  go_loopw [6] (fun i wr => ∃ k : Nat, k ≤ n ∧ i = .int .i64 k ∧ Hid (CR w.heap.size w.heap.size n k (fun i => .int .i32 (pos i)) w wr) ∧ Hid (CR w.heap.size (w.heap.size + 1) n k (fun _ => .int .i32 1) w wr)) (fun i _ => n - (intOf i).toNat)
  case atStart => exact ⟨0, Nat.zero_le _, rfl, HA0, HB0⟩
  case round =>
    clear HA0 HB0
    obtain ⟨k, hk, rfl, HA, HB⟩ := hrel
    by_cases hlt : k < n
    · have q0 : (0 : Int) ≤ k := by omega
      have q1 : (k : Int) < n := by omega
      obtain ⟨v0, e0⟩ := Option.isSome_iff_exists.1 (HA.out.2.1 k (by omega))
      obtain ⟨v1, e1⟩ := Option.isSome_iff_exists.1 (HB.out.2.1 k (by omega))
      have hf0 := HA.out.2.2.1
      have hf1 := HB.out.2.2.1
      have HPA := Lib.hid (cr_other (HA.out.put hlt) (g' := w.heap.size + 1) (o := k) (by omega) (by omega) (.int .i32 1))
      have HPB := Lib.hid ((cr_other HB.out (g' := w.heap.size) (o := k) (by omega) (by omega) (.int .i32 (pos k))).put hlt)
      go_wp2
      exact ⟨⟨k + 1, by omega, by go_num, HPA, HPB⟩, by simp [intOf]; omega⟩
    · obtain rfl : k = n := by omega
      go_wp2
      go_ret2
      exact ⟨w.heap.size, w.heap.size + 1, rfl, HA.out.done, HB.out.done, HA.out.2.2.2.2.2⟩
def CountP (n i : Nat) (K : Nat → Int) (w : World) (e : Ending) (w' : World) : Prop := e = .returned (.int .i64 ((R n K [] i : Nat) - (i : Nat) : Int)) ∧ w = w' ∧ R n K [] i ≤ n
set_option maxRecDepth 100000 in
set_option maxHeartbeats 1000000 in
theorem count_any (a : Option Addr) (n cc : Nat) (K : Nat → Int) (hn : (n : Int) ≤ 1048576) (i : Nat) (hi : i ≤ n) (w : World) (h : Sl w a n (fun j => .int .u8 (K j))) :
    Calls Tryf.prog 6 #[.slice a n cc, .int .i64 i] w (CountP n i K w) := by
  have H := Lib.hid h
  clear h
  go_enter Tryf.func6, Tryf.ntmps6
  go_wp2_with fail
  refine (skip_any a n cc K (by omega) (n - i) false 0 i w (Nat.le_refl _) hi (fun e => by cases e) H.out).mono ?_
  rintro e w1 ⟨j, s, rfl, rfl, h1, h2, h3⟩
  have hj : R n K [] i = j := by
    rcases h3 with ⟨-, h⟩ | ⟨-, h, -⟩
    · exact h []
    · cases h
  have HJ := Lib.hid hj
  have q0 : (0 : Int) ≤ i := by omega
  have q1 : (i : Int) ≤ j := by omega
  have q2 : (j : Int) ≤ 1048576 := by omega
  clear h3 hj
  go_wp2_with fail
  go_ret
  exact ⟨by first | (rw [HJ.out]; done) | (rw [HJ.out]; rfl), rfl, by rw [HJ.out]; exact h2⟩
theorem tok_info : (Tryf.prog.info? 43).map (fun i => (i.zero, i.size, i.bytes)) = some (some (.agg #[.int .i32 0, .int .i32 0, .int .u16 0, .int .u8 0, .int .u8 0]), 5, 12) := by kernel_rfl
/-- block g: a row of n tokens, of which the first k are set -/
def TR (B g n k : Nat) (S L K : Nat → Int) (w0 w : World) : Prop :=
  (∀ j, j < k → w.cell? ⟨g, j * 5, none⟩ = some (.int .i32 (S j)) ∧ w.cell? ⟨g, j * 5 + 1, none⟩ = some (.int .i32 (L j)) ∧ w.cell? ⟨g, j * 5 + 2, none⟩ = some (.int .u16 0) ∧ w.cell? ⟨g, j * 5 + 3, none⟩ = some (.int .u8 (K j)) ∧ w.cell? ⟨g, j * 5 + 4, none⟩ = some (.int .u8 0)) ∧
  (∀ o, o < n * 5 → (w.cell? ⟨g, o, none⟩).isSome = true) ∧ (∀ o, w.frozen? ⟨g, o, none⟩ = false) ∧ B ≤ g ∧ g < w.heap.size ∧ Below B w0 w
section
variable {B g n k : Nat} {S L K : Nat → Int} {w0 w w' : World}
theorem TR.put (h : TR B g n k S L K w0 w) (hk : k < n) : TR B g n (k + 1) S L K w0 (((((w.setCell ⟨g, k * 5, none⟩ (.int .i32 (S k))).setCell ⟨g, k * 5 + 1, none⟩ (.int .i32 (L k))).setCell ⟨g, k * 5 + 2, none⟩ (.int .u16 0)).setCell ⟨g, k * 5 + 3, none⟩ (.int .u8 (K k))).setCell ⟨g, k * 5 + 4, none⟩ (.int .u8 0)) := by
  obtain ⟨h1, h2, h3, h4, h5, h6⟩ := h
  have s0 := h2 (k * 5) (by omega)
  have s1 := h2 (k * 5 + 1) (by omega)
  have s2 := h2 (k * 5 + 2) (by omega)
  have s3 := h2 (k * 5 + 3) (by omega)
  have s4 := h2 (k * 5 + 4) (by omega)
  refine ⟨fun j hj => ?_, fun o ho => set_some (set_some (set_some (set_some (set_some (h2 o ho))))), fun o => by simp only [World.frozen?_setCell]; exact h3 o, h4, by simpa [World.setCell] using h5, ((((h6.setCell h4 _).setCell h4 _).setCell h4 _).setCell h4 _).setCell h4 _⟩
  by_cases hjk : j = k
  · subst hjk
    exact ⟨set_far (by omega) (set_far (by omega) (set_far (by omega) (set_far (by omega) (set_same s0)))), set_far (by omega) (set_far (by omega) (set_far (by omega) (set_same (set_some s1)))), set_far (by omega) (set_far (by omega) (set_same (set_some (set_some s2)))), set_far (by omega) (set_same (set_some (set_some (set_some s3)))), set_same (set_some (set_some (set_some (set_some s4))))⟩
  · obtain ⟨a, b, c, d, e⟩ := h1 j (by omega)
    exact ⟨set_far (by omega) (set_far (by omega) (set_far (by omega) (set_far (by omega) (set_far (by omega) a)))), set_far (by omega) (set_far (by omega) (set_far (by omega) (set_far (by omega) (set_far (by omega) b)))), set_far (by omega) (set_far (by omega) (set_far (by omega) (set_far (by omega) (set_far (by omega) c)))), set_far (by omega) (set_far (by omega) (set_far (by omega) (set_far (by omega) (set_far (by omega) d)))), set_far (by omega) (set_far (by omega) (set_far (by omega) (set_far (by omega) (set_far (by omega) e))))⟩
theorem TR.drewP (h : TR B g n k S L K w0 w) : TR B g n k S L K w0 w.drew := by
  obtain ⟨h1, h2, h3, h4, h5, h6⟩ := h
  exact ⟨h1, h2, h3, h4, h5, h6.drew⟩
end
def NewP (n : Nat) (S L K : Nat → Int) (C : ByteArray) (c : Nat) (w : World) (e : Ending) (w' : World) : Prop := ∃ b g, e = .returned (.pointer (some ⟨b, 0, none⟩)) ∧ PT b g n S L K C c (.slice none 0 0) w' ∧ w.heap.size ≤ b ∧ g < w'.heap.size ∧ Below w.heap.size w w'
set_option maxRecDepth 100000 in
set_option maxHeartbeats 2000000 in
theorem new_any (C : ByteArray) (a1 a2 a3 : Option Addr) (n c1 c2 c3 : Nat) (c : Nat) (S L K : Nat → Int) (w : World) (h1 : Sl w a1 n (fun j => .int .u8 (K j))) (h2 : Sl w a2 n (fun j => .int .i32 (S j))) (h3 : Sl w a3 n (fun j => .int .i32 (L j))) (hn : (n : Int) ≤ 1048576) :
    Calls Tryf.prog 8 #[.string C, .slice a1 n c1, .slice a2 n c2, .slice a3 n c3, .int .i64 c, .bool false, .int .u8 0, .bool false] w (NewP n S L K C c w) := by
  obtain ⟨i0, hi, hz0, hz1, hz2⟩ := info_parts tok_info
  have hmk := fun W => run_make_rowN (P := Tryf.prog) 35 43 i0 _ Tryf.underlying35 hi hz0 .i64 .i64 n n (Nat.le_refl _) (by rw [hz2]; omega) (by omega) W
  have H1 := Lib.hid h1
  have H2 := Lib.hid h2
  have H3 := Lib.hid h3
  clear h1 h2 h3
  rw [hz1] at hmk
  go_enter Tryf.func8, Tryf.ntmps8
  go_wp2
  have hT0 : TR w.heap.size w.heap.size n 0 S L K w (w.alloc (.cells (madeCells #[.int .i32 0, .int .i32 0, .int .u16 0, .int .u8 0, .int .u8 0] (n * 5)) 43)) := by
    refine ⟨fun j hj => by omega, fun o ho => ?_, fun o => by simp, Nat.le_refl _, by simp, (Below.refl _ _).alloc (Nat.le_refl _) _⟩
    simp [madeCells, ho]
  generalize World.alloc w _ = w1 at hT0 ⊢
  have HT0 := Lib.hid hT0
  clear hT0 hmk hi hz0 hz1 hz2
  go_loopw [19] (fun i wr => ∃ k : Nat, k ≤ n ∧ i = .int .i64 k ∧ Hid (TR w.heap.size w.heap.size n k S L K w wr)) (fun i _ => n - (intOf i).toNat)
  case atStart => exact ⟨0, Nat.zero_le _, rfl, HT0⟩
  case round =>
    clear HT0
    obtain ⟨k, hk, rfl, HT⟩ := hrel
    by_cases hlt : k < n
    · obtain ⟨b1, o1, rfl, r1⟩ := H1.out k hlt
      obtain ⟨b2, o2, rfl, r2⟩ := H2.out k hlt
      obtain ⟨b3, o3, rfl, r3⟩ := H3.out k hlt
      have t1 : wr.cell? ⟨b1, o1 + k, none⟩ = some (.int .u8 (K k)) := (HT.out.2.2.2.2.2.cell (p := ⟨b1, o1 + k, none⟩) (World.block_lt_of_cell? w _ r1)).trans r1
      have t2 : wr.cell? ⟨b2, o2 + k, none⟩ = some (.int .i32 (S k)) := (HT.out.2.2.2.2.2.cell (p := ⟨b2, o2 + k, none⟩) (World.block_lt_of_cell? w _ r2)).trans r2
      have t3 : wr.cell? ⟨b3, o3 + k, none⟩ = some (.int .i32 (L k)) := (HT.out.2.2.2.2.2.cell (p := ⟨b3, o3 + k, none⟩) (World.block_lt_of_cell? w _ r3)).trans r3
      have q0 : (0 : Int) ≤ k := by omega
      have q1 : (k : Int) < n := by omega
      clear r1 r2 r3
      obtain ⟨v0, e0⟩ := Option.isSome_iff_exists.1 (HT.out.2.1 (k * 5) (by omega))
      obtain ⟨v1, e1⟩ := Option.isSome_iff_exists.1 (HT.out.2.1 (k * 5 + 1) (by omega))
      obtain ⟨v2, e2⟩ := Option.isSome_iff_exists.1 (HT.out.2.1 (k * 5 + 2) (by omega))
      obtain ⟨v3, e3⟩ := Option.isSome_iff_exists.1 (HT.out.2.1 (k * 5 + 3) (by omega))
      obtain ⟨v4, e4⟩ := Option.isSome_iff_exists.1 (HT.out.2.1 (k * 5 + 4) (by omega))
      have hf := HT.out.2.2.1
      have HP := Lib.hid ((HT.out.put hlt).drewP)
      go_wp2
      go_region
      all_goals go_wp2
      all_goals exact ⟨⟨k + 1, by omega, by go_num, HP⟩, by simp [intOf]; omega⟩
    · obtain rfl : k = n := by omega
      clear H1 H2 H3
      go_wp2
      go_ret
      obtain ⟨h1, h2, h3, h4, h5, h6⟩ := HT.out
      refine ⟨wr.heap.size, w.heap.size, rfl, ⟨⟨by simp, by simp, by simp, by simp, by simp, by simp⟩, fun j hj => ?_, by omega⟩, h6.size, by simp; omega, h6.alloc (by omega) _⟩
      obtain ⟨a, b, c, d, e⟩ := h1 j hj
      exact ⟨alloc_cell a _, alloc_cell b _, alloc_cell c _, alloc_cell d _, alloc_cell e _⟩
def AnyQ (b g n : Nat) (S L K : Nat → Int) (C : ByteArray) (i : Nat) (w : World) (e : Ending) (w' : World) : Prop :=
  ∃ v, e = .returned (.int .i64 ((R n K [] i - i : Nat) : Int)) ∧ PT b g n S L K C (R n K [] i : Nat) v w' ∧ w.grownBy w' (some b)
set_option maxRecDepth 100000 in
set_option maxHeartbeats 1000000 in
theorem zany_any (b g n : Nat) (S L K : Nat → Int) (C : ByteArray) (i : Nat) (w : World) (h : PT b g n S L K C i (.slice none 0 0) w) (hg : g < w.heap.size) (hn : (n : Int) ≤ 1048576) (hgt : i < R n K [] i) (hin : i ≤ n) :
    Calls Tryf.prog 9 #[.pointer (some ⟨b, 0, none⟩)] w (AnyQ b g n S L K C i w) := by
  have H : Hid (SS b g n S L K C i (.slice none 0 0) [] w w) := Lib.hid ⟨h, World.ownsRow_nil _ _ _ _, ⟨rfl, rfl, rfl, Nat.le_refl _, fun _ _ _ => rfl⟩, h.lt, hg⟩
  have HG := Lib.hid hgt
  clear h hgt
  go_enter Tryf.func9, Tryf.ntmps9
  go_wp2_with fail
  refine (any_any b g n S L K C i w H.out hn HG.out hin).mono ?_
  rintro e w1 ⟨v, st, a, c, rfl, hs⟩
  have HS := Lib.hid hs
  clear hs H
  obtain ⟨m, hm⟩ : ∃ m, m = R n K [] i - i := ⟨_, rfl⟩
  rw [← hm]
  have HM := Lib.hid hm
  clear hm
  go_wp2_with fail
  go_ret
  exact ⟨v, by first | (rw [HM.out]; done) | (rw [HM.out]; rfl), HS.out.1, HS.out.2.2.1⟩
set_option maxRecDepth 100000 in
theorem zindex_any (b : Nat) (c : Int) (w : World) (h : w.cell? ⟨b, 42, none⟩ = some (.int .i64 c)) :
    Calls Tryf.prog 10 #[.pointer (some ⟨b, 0, none⟩)] w fun e w' => e = .returned (.int .i64 c) ∧ w = w' := by
  go_enter Tryf.func10, Tryf.ntmps10
  go_wp2
  go_ret
  exact ⟨rfl, rfl⟩
end Go.Proofs.YtelpdhhcpdagbabFmt.Av
