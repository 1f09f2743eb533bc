/-
  The model's component; the tokens that the law builds; the parser over them.
-/
import Derived.Test.YtelpdhhcpdagbaaFmtCc
import Derived.BigQuiet
import Derived.Lib.BufferRead
namespace Go.Proofs.YtelpdhhcpdagbaaFmt.Av
open Go.ChangeShapes Go.WideShapes Go.ChangeAt Go.RowKit Rg
set_option linter.unusedVariables false
def CompP (n i : Nat) (Q : Nat → Int) (w : World) (e : Ending) (w' : World) : Prop := ∃ (r : Nat) (ok : Bool), e = .returned (.tuple #[.int .i64 r, .bool ok]) ∧ Below w.heap.size w w' ∧
  (0 ≤ cl (Q i) → ok = true → M n Q [cl (Q i)] (i + 1) = some r ∧ r ≤ n) ∧ (¬ 0 ≤ cl (Q i) → r = i + 1)
set_option maxRecDepth 100000 in
set_option maxHeartbeats 1000000 in
theorem comp_any (a : Option Addr) (n cc : Nat) (Z : Nat → Int) (hZ : ∀ j, j < n → 0 ≤ Z j ∧ Z j ≤ 255) (hn : (n : Int) ≤ 65536) (i : Nat) (hi : i < n) (w : World) (h : Sl w a n (fun j => .int .u8 (Z j))) :
    Calls Tryf.prog 6 #[.slice a n cc, .int .i64 i] w (CompP n i (fun j => Z j % 15) w) := by
  have HS := Lib.hid h
  have HZ := Lib.hid hZ
  obtain ⟨ab, ao, hx, cx⟩ := h i hi
  have p0 : (0 : Int) ≤ i := by omega
  have p1 : (i : Int) < n := by omega
  have hz := hZ i hi
  have hq : 0 ≤ Z i % 15 ∧ Z i % 15 ≤ 14 := by omega
  clear h hZ
  subst hx
  go_enter Tryf.func6, Tryf.ntmps6
  go_wp2_with fail
  refine (cls_any (Z i) hz w).mono ?_
  rintro e w1 ⟨rfl, rfl⟩
  clear hz
  go_wp2_with fail
  refine (closer_any (Z i % 15) hq w).mono ?_
  rintro e w1 ⟨rfl, rfl⟩
  by_cases h0 : 0 ≤ cl (Z i % 15)
  · have hr := cl_range hq h0
    have hci : cl (Z i % 15) = cl ((fun j => Z j % 15) i) := rfl
    obtain ⟨c, hc⟩ : ∃ c, c = cl (Z i % 15) := ⟨_, rfl⟩
    rw [← hc] at h0 hr ⊢
    have HC := Lib.hid hc
    clear hc hq cx hci
    go_wp2_with fail
    refine (show Calls Tryf.prog 11 #[.slice (some ⟨ab, ao, none⟩) n cc, .int .i64 ((i + 1 : Nat) : Int), .int .i64 c] w (GeP n (M n (fun j => Z j % 15) [c] (i + 1)) w) from ge_any (some ⟨ab, ao, none⟩) n cc Z HZ.out hn (i + 1) hi c hr w HS.out).mono ?_
    rintro e w1 ⟨r, ok, rfl, h1, hb⟩
    have HR : Hid (ok = true → M n (fun j => Z j % 15) [c] (i + 1) = some r ∧ r ≤ n) := Lib.hid (fun hk => by
      rcases h1 with ⟨-, h⟩ | ⟨h, -⟩
      · exact h
      · rw [h] at hk; cases hk)
    have HB := Lib.hid hb
    clear h1 hb hr
    go_wp2_with fail
    go_ret2
    exact ⟨r, ok, rfl, HB.out, fun _ hk => by show M n _ [cl (Z i % 15)] (i + 1) = some r ∧ r ≤ n; rw [← HC.out]; exact HR.out hk, fun hh => absurd (by show 0 ≤ cl (Z i % 15); rw [← HC.out]; exact h0) hh⟩
  · clear hq cx
    have h9 : cl (Z i % 15) < 0 := by omega
    go_wp2_with fail
    go_ret2
    exact ⟨i + 1, true, rfl, Below.refl _ _, fun hh => absurd hh (by show ¬ 0 ≤ cl (Z i % 15); omega), fun _ => rfl⟩
theorem tok_info : (Tryf.prog.info? 44).map (fun i => (i.zero, i.size, i.bytes)) = some (some (.agg #[.int .i32 0, .int .i32 0, .int .u16 0, .int .u8 0, .int .u8 0]), 5, 12) := by kernel_rfl
/-- block g: a row of n tokens, of which the first k are set -/
def TR (B g n k : Nat) (S L K : Nat → Int) (w0 w : World) : Prop :=
  (∀ j, j < k → w.cell? ⟨g, j * 5, none⟩ = some (.int .i32 (S j)) ∧ w.cell? ⟨g, j * 5 + 1, none⟩ = some (.int .i32 (L j)) ∧ w.cell? ⟨g, j * 5 + 2, none⟩ = some (.int .u16 0) ∧ w.cell? ⟨g, j * 5 + 3, none⟩ = some (.int .u8 (K j)) ∧ w.cell? ⟨g, j * 5 + 4, none⟩ = some (.int .u8 0)) ∧
  (∀ o, o < n * 5 → (w.cell? ⟨g, o, none⟩).isSome = true) ∧ (∀ o, w.frozen? ⟨g, o, none⟩ = false) ∧ B ≤ g ∧ g < w.heap.size ∧ Below B w0 w
section
variable {B g n k : Nat} {S L K : Nat → Int} {w0 w w' : World}
theorem TR.put (h : TR B g n k S L K w0 w) (hk : k < n) : TR B g n (k + 1) S L K w0 (((((w.setCell ⟨g, k * 5, none⟩ (.int .i32 (S k))).setCell ⟨g, k * 5 + 1, none⟩ (.int .i32 (L k))).setCell ⟨g, k * 5 + 2, none⟩ (.int .u16 0)).setCell ⟨g, k * 5 + 3, none⟩ (.int .u8 (K k))).setCell ⟨g, k * 5 + 4, none⟩ (.int .u8 0)) := by
  obtain ⟨h1, h2, h3, h4, h5, h6⟩ := h
  have s0 := h2 (k * 5) (by omega)
  have s1 := h2 (k * 5 + 1) (by omega)
  have s2 := h2 (k * 5 + 2) (by omega)
  have s3 := h2 (k * 5 + 3) (by omega)
  have s4 := h2 (k * 5 + 4) (by omega)
  refine ⟨fun j hj => ?_, fun o ho => set_some (set_some (set_some (set_some (set_some (h2 o ho))))), fun o => by simp only [World.frozen?_setCell]; exact h3 o, h4, by simpa [World.setCell] using h5, ((((h6.setCell h4 _).setCell h4 _).setCell h4 _).setCell h4 _).setCell h4 _⟩
  by_cases hjk : j = k
  · subst hjk
    exact ⟨set_far (by omega) (set_far (by omega) (set_far (by omega) (set_far (by omega) (set_same s0)))), set_far (by omega) (set_far (by omega) (set_far (by omega) (set_same (set_some s1)))), set_far (by omega) (set_far (by omega) (set_same (set_some (set_some s2)))), set_far (by omega) (set_same (set_some (set_some (set_some s3)))), set_same (set_some (set_some (set_some (set_some s4))))⟩
  · obtain ⟨a, b, c, d, e⟩ := h1 j (by omega)
    exact ⟨set_far (by omega) (set_far (by omega) (set_far (by omega) (set_far (by omega) (set_far (by omega) a)))), set_far (by omega) (set_far (by omega) (set_far (by omega) (set_far (by omega) (set_far (by omega) b)))), set_far (by omega) (set_far (by omega) (set_far (by omega) (set_far (by omega) (set_far (by omega) c)))), set_far (by omega) (set_far (by omega) (set_far (by omega) (set_far (by omega) (set_far (by omega) d)))), set_far (by omega) (set_far (by omega) (set_far (by omega) (set_far (by omega) (set_far (by omega) e))))⟩
theorem TR.grown (h : TR B g n k S L K w0 w) {row : Option Nat} (hg : w.grownBy w' row) (hne : row ≠ some g) (hB : ∀ q, row = some q → B ≤ q) (hs : B ≤ w.heap.size) : TR B g n k S L K w0 w' := by
  obtain ⟨h1, h2, h3, h4, h5, h6⟩ := h
  have hc : ∀ o u, w.cell? ⟨g, o, none⟩ = some u → w'.cell? ⟨g, o, none⟩ = some u := fun o u hu => hg.cell hu (fun e => hne e.symm)
  refine ⟨fun j hj => ?_, fun o ho => ?_, fun o => by rw [hg.frozen_far ⟨g, o, none⟩ h5 (fun e => hne e.symm)]; exact h3 o, h4, Nat.lt_of_lt_of_le h5 hg.size, h6.grown hg hs hB⟩
  · obtain ⟨a, b, c, d, e⟩ := h1 j hj
    exact ⟨hc _ _ a, hc _ _ b, hc _ _ c, hc _ _ d, hc _ _ e⟩
  · obtain ⟨u, hu⟩ := Option.isSome_iff_exists.1 (h2 o ho)
    rw [hc o u hu]; rfl
end
theorem own_form {w : World} {B : Nat} {e : TypeId} {s n : Nat} {v : Value} {xs : List Value} (h : w.ownsRow B e s v n xs) : ∃ a c, v = .slice a n c := by
  rcases h.2 with ⟨rfl, rfl⟩ | ⟨g, cap, cur, rfl, _⟩ <;> exact ⟨_, _, rfl⟩
def ub (l : List UInt8) : List Value := l.map fun b => .int .u8 (b.toNat : Int)
/-- the text and the tokens under construction -/
def BD (B g n k : Nat) (l : List UInt8) (S L K : Nat → Int) (v : Value) (w0 w : World) : Prop := TR B g n k S L K w0 w ∧ w.ownsRow B 5 1 v l.length (ub l) ∧ v.ownBlock ≠ some g ∧ B ≤ w.heap.size
section
variable {B g n k : Nat} {l : List UInt8} {S L K : Nat → Int} {v : Value} {w0 w w' : World}
theorem BD.push (h : BD B g n k l S L K v w0 w) (x : UInt8) {g9 cap : Nat} (ho : w'.ownsRow B 5 1 (.slice (some ⟨g9, 0, none⟩) (l.length + 1) cap) (l.length + 1) (ub l ++ [.int .u8 (x.toNat : Int)])) (o : Obj)
    (hg : (w.alloc o).grownBy w' v.ownBlock) (hat : v.ownBlock = some g9 ∨ g9 = (w.alloc o).heap.size) : BD B g n k (l ++ [x]) S L K (.slice (some ⟨g9, 0, none⟩) (l.length + 1) cap) w0 w' := by
  obtain ⟨h1, h2, h3, h4⟩ := h
  have hs : (w.alloc o).heap.size = w.heap.size + 1 := by simp
  have hlt := h1.2.2.2.2.1
  have hga : w.grownBy (w.alloc o) v.ownBlock := grown_alloc w o _
  refine ⟨h1.grown (hga.trans hg) h3 (fun q hq => (h2.lt q hq).1) h4, by simpa [ub] using ho, fun e => ?_, ?_⟩
  · simp [Value.ownBlock] at e
    subst e
    rcases hat with hh | hh
    · exact h3 hh
    · omega
  · have := hg.size; omega
theorem BD.put (h : BD B g n k l S L K v w0 w) (hk : k < n) (s u : Int) : ∃ S' L', BD B g n (k + 1) l S' L' K v w0 (((((w.setCell ⟨g, k * 5, none⟩ (.int .i32 s)).setCell ⟨g, k * 5 + 1, none⟩ (.int .i32 u)).setCell ⟨g, k * 5 + 2, none⟩ (.int .u16 0)).setCell ⟨g, k * 5 + 3, none⟩ (.int .u8 (K k))).setCell ⟨g, k * 5 + 4, none⟩ (.int .u8 0)) := by
  obtain ⟨h1, h2, h3, h4⟩ := h
  have h1' : TR B g n k (fun j => if j = k then s else S j) (fun j => if j = k then u else L j) K w0 w := by
    obtain ⟨a1, a2⟩ := h1
    refine ⟨fun j hj => ?_, a2⟩
    have e : ¬ j = k := by omega
    simp only [e, if_false]
    exact a1 j hj
  have hp := h1'.put hk
  simp only [if_true] at hp
  exact ⟨_, _, hp, ownsRow_setCell_other (ownsRow_setCell_other (ownsRow_setCell_other (ownsRow_setCell_other (ownsRow_setCell_other h2 (a := ⟨g, k * 5, none⟩) h3 _) (a := ⟨g, k * 5 + 1, none⟩) h3 _) (a := ⟨g, k * 5 + 2, none⟩) h3 _) (a := ⟨g, k * 5 + 3, none⟩) h3 _) (a := ⟨g, k * 5 + 4, none⟩) h3 _, h3, by simpa [World.setCell] using h4⟩
end
theorem conv_any {w : World} {B c : Nat} {a : Option Addr} {l : List UInt8} (h : w.ownsRow B 5 1 (.slice a l.length c) l.length (ub l)) : ∃ C, (convert 22 9 (.slice a l.length c)).run Tryf.prog w = .ok (.string C) w := by
  rcases h.2 with ⟨e, h0⟩ | ⟨g, cap, cur, e, _⟩
  · injection e with e1 e2 e3
    subst e1
    rw [h0]
    exact ⟨_, Lib.run_convert_nil_bytes (P := Tryf.prog) w 22 9 5 c Tryf.underlying22 Tryf.underlying5 Tryf.underlying9⟩
  · injection e with e1 e2 e3
    subst e1
    refine ⟨_, run_convert_bytes_back (P := Tryf.prog) w 22 9 5 ⟨g, 0, none⟩ c l Tryf.underlying22 Tryf.underlying5 Tryf.underlying9 (fun j hj => ?_)⟩
    have := h.cellAt j (by simpa using hj)
    rw [add_none, Nat.zero_add, this]
    simp [ub, hj]
def BuildP (n : Nat) (K : Nat → Int) (w : World) (e : Ending) (w' : World) : Prop := ∃ (C : ByteArray) (g : Nat) (S L : Nat → Int), e = .returned (.tuple #[.string C, .slice (some ⟨g, 0, none⟩) n n]) ∧ TR w.heap.size g n n S L K w w'
set_option maxRecDepth 100000 in
set_option maxHeartbeats 4000000 in
theorem build_any (a : Option Addr) (n cc : Nat) (Z : Nat → Int) (hZ : ∀ j, j < n → 0 ≤ Z j ∧ Z j ≤ 255) (hn : (n : Int) ≤ 65536) (w : World) (h : Sl w a n (fun j => .int .u8 (Z j))) :
    Calls Tryf.prog 7 #[.slice a n cc] w (BuildP n (fun j => kd (Z j % 15)) w) := by
  obtain ⟨i0, ji, jz, js, jb⟩ := info_parts u8_info
  obtain ⟨i1, hi, hz0, hz1, hz2⟩ := info_parts tok_info
  have HI := Lib.hid (And.intro ji (And.intro jz (And.intro js jb)))
  obtain ⟨w7, hmk, hown7, hgr7⟩ := run_make_own (P := Tryf.prog) w w.heap.size 22 5 i0 _ 1 Tryf.underlying22 ji jz js .i64 .i64 (4 * n + 1) (by rw [jb]; omega) (by unfold maxLen; omega) (Nat.le_refl _)
  have hmt := run_make_rowN (P := Tryf.prog) 27 44 i1 _ Tryf.underlying27 hi hz0 .i64 .i64 n n (Nat.le_refl _) (by rw [hz2]; omega) (by omega) w7
  rw [hz1] at hmt
  have e7 : (((4 * n + 1 : Nat)) : Int) = 4 * (n : Int) + 1 := by omega
  rw [e7] at hmk
  have hT0 : BD w.heap.size w7.heap.size n 0 [] (fun _ => 0) (fun _ => 0) (fun j => kd (Z j % 15)) (.slice (some ⟨w.heap.size, 0, none⟩) 0 (4 * n + 1)) w (w7.alloc (.cells (madeCells #[.int .i32 0, .int .i32 0, .int .u16 0, .int .u8 0, .int .u8 0] (n * 5)) 44)) := by
    have hs7 : w.heap.size < w7.heap.size := (hown7.lt w.heap.size rfl).2
    refine ⟨⟨fun j hj => by omega, fun o ho => ?_, fun o => by simp, by omega, by simp, ((Below.refl _ _).grown hgr7 (Nat.le_refl _) (fun k hk => by cases hk)).alloc (by omega) _⟩, hown7.alloc _, ?_, by simp; omega⟩
    · simp [madeCells, ho]
    · simp [Value.ownBlock]; omega
  have HS := Lib.hid h
  have HZ := Lib.hid hZ
  have HT := Lib.hid hT0
  clear h hZ hown7 hgr7 ji jz js jb hi hz0 hz1 hz2 e7 hT0
  go_enter Tryf.func7, Tryf.ntmps7
  go_wp2_with fail
  clear hmk hmt
  generalize (World.alloc w7 _) = wa at HT ⊢
  go_loopw [4, 6] (fun v iv wr => ∃ (k : Nat) (l : List UInt8) (S L : Nat → Int), k ≤ n ∧ l.length ≤ 9 * k ∧ iv = .int .i64 k ∧ Hid (BD w.heap.size w7.heap.size n k l S L (fun j => kd (Z j % 15)) v w wr)) (fun _ iv _ => n - (intOf iv).toNat)
  case atStart => exact ⟨0, [], _, _, Nat.zero_le _, Nat.le_refl _, rfl, HT⟩
  case round =>
    clear HT
    obtain ⟨k, l, S, L, hk, hl, rfl, HT⟩ := hrel
    obtain ⟨va, vc, rfl⟩ := own_form HT.out.2.1
    by_cases hlt : k < n
    · obtain ⟨ab, ao, hx, cx⟩ := HS.out k hlt
      have cx := (HT.out.1.2.2.2.2.2.cell (p := ⟨ab, ao + k, none⟩) (World.block_lt_of_cell? w _ cx)).trans cx
      subst hx
      have p0 : (0 : Int) ≤ k := by omega
      have p1 : (k : Int) < n := by omega
      have hz := HZ.out k hlt
      have hq : 0 ≤ Z k % 15 ∧ Z k % 15 ≤ 14 := by omega
      have HQ := Lib.hid hq
      go_wp2_with fail
      refine (cls_any (Z k) hz wr).mono ?_
      rintro e w1 ⟨rfl, rfl⟩
      clear hz cx
      go_wp2_with fail
      refine (text_any (Z k % 15) hq wr).mono ?_
      rintro e w1 ⟨rfl, rfl⟩
      have ht := tx_size hq
      obtain ⟨T, hT⟩ : ∃ T, T = tx (Z k % 15) := ⟨_, rfl⟩
      rw [← hT] at ht ⊢
      have hlN : (l.length : Int) ≤ 600000 := by omega
      have hlN0 : (0 : Int) ≤ l.length := by omega
      obtain ⟨N, hN⟩ : ∃ N, N = l.length := ⟨_, rfl⟩
      rw [← hN] at hlN hlN0 ⊢
      have HN := Lib.hid hN
      have HNL := Lib.hid (show N ≤ 9 * k by rw [hN]; exact hl)
      clear hT hq hN
      go_wp2_with fail
      have HT0 := Lib.hid (show ∃ l' : List UInt8, l'.length = N + 0 ∧ BD w.heap.size w7.heap.size n k l' S L (fun j => kd (Z j % 15)) (.slice va N vc) w wr from ⟨l, HN.out.symm, by have := HT.out; rw [← HN.out] at this; exact this⟩)
      clear HT HN
      go_loopw [4, 10] (fun v jv wr => ∃ (m : Nat), m ≤ T.size ∧ jv = .int .i64 m ∧ Hid (∃ l' : List UInt8, l'.length = N + m ∧ BD w.heap.size w7.heap.size n k l' S L (fun j => kd (Z j % 15)) v w wr)) (fun _ jv _ => T.size - (intOf jv).toNat)
      case atStart => exact ⟨0, Nat.zero_le _, rfl, HT0⟩
      case round =>
        clear HT0
        obtain ⟨m, hm, rfl, HT⟩ := hrel
        obtain ⟨l', hl', hT'⟩ := HT.out
        have HT2 := Lib.hid hT'
        have HL2 := Lib.hid hl'
        clear HT hl' hT'
        by_cases hlm : m < T.size
        · have r0 : (0 : Int) ≤ m := by omega
          have r1 : (m : Int) < T.size := by omega
          have r2 : (m : Int) ≤ 9 := by omega
          go_wp2_with (first | (at_builtin; refine wpList_append_lies _ rfl (.tmp 40) (.tmp 44) 22 rfl w.heap.size 5 i0 _ 1 1 Tryf.underlying22 HI.out.1 HI.out.2.1 HI.out.2.2.1 HI.out.2.2.2 rfl (by omega) _ _ _ rfl (HT2.out.2.1.alloc (.cells #[.int .u8 ((T[m]'hlm).toNat : Int)] 5)) ⟨wr.heap.size, 0, none⟩ 1 1 [.int .u8 ((T[m]'hlm).toNat : Int)] rfl rfl (World.news_of_block (cs := #[.int .u8 ((T[m]'hlm).toNat : Int)]) (heap_alloc_new wr _)) (by simp [Value.oneCell']) (by omega) (by have := HL2.out; unfold maxLen; omega) (by have := HL2.out; omega) (by have := HT2.out.2.2.2; simp; omega) _ rfl ?_; intro g9 cap9 w9 ho9 hg9 hat9 hlt9))
          have HK2 := Lib.hid (HT2.out.push (T[m]'hlm) ho9 _ hg9 hat9)
          clear ho9 hg9 hat9 hlt9 HT2
          go_wp2_with fail
          go_roundw
          case rel => exact ⟨m + 1, by omega, by go_num, Lib.hid ⟨_, by have := HL2.out; simp; omega, HK2.out⟩⟩
          case measure => simp [intOf]; omega
        · obtain rfl : m = T.size := by omega
          have r2 : ((T.size : Nat) : Int) ≤ 9 := by omega
          have r3 : (0 : Int) ≤ T.size := by omega
          obtain ⟨TS, hTS⟩ : ∃ TS, TS = T.size := ⟨_, rfl⟩
          have HTS := Lib.hid hTS
          have HLL : Hid (l'.length ≤ 9 * (k + 1)) := Lib.hid (by have := HL2.out; have := HNL.out; omega)
          have hf := HT2.out.1.2.2.1
          obtain ⟨v0, e0⟩ := Option.isSome_iff_exists.1 (HT2.out.1.2.1 (k * 5) (by omega))
          obtain ⟨v1, e1⟩ := Option.isSome_iff_exists.1 (HT2.out.1.2.1 (k * 5 + 1) (by omega))
          obtain ⟨v2, e2⟩ := Option.isSome_iff_exists.1 (HT2.out.1.2.1 (k * 5 + 2) (by omega))
          obtain ⟨v3, e3⟩ := Option.isSome_iff_exists.1 (HT2.out.1.2.1 (k * 5 + 3) (by omega))
          obtain ⟨v4, e4⟩ := Option.isSome_iff_exists.1 (HT2.out.1.2.1 (k * 5 + 4) (by omega))
          have HP := Lib.hid (HT2.out.put hlt N T.size)
          clear hlm hm HT2 hTS
          go_wp2_with fail
          refine (kind_any (Z k % 15) HQ.out wr).mono ?_
          rintro e w1 ⟨rfl, rfl⟩
          go_wp2_with fail
          obtain ⟨S', L', HP2⟩ := HP.out
          have HP3 := Lib.hid HP2
          clear HP2 HP e0 e1 e2 e3 e4 hf
          go_roundw
          case rel => exact ⟨k + 1, l', S', L', by omega, HLL.out, by go_num, HP3⟩
          case measure => simp [intOf]; omega
    · obtain rfl : k = n := by omega
      obtain ⟨N, hN⟩ : ∃ N, N = l.length := ⟨_, rfl⟩
      obtain ⟨C, hC⟩ := conv_any HT.out.2.1
      rw [← hN] at hC ⊢
      clear hN
      go_wp2_with fail
      go_ret2
      exact ⟨C, w7.heap.size, S, L, rfl, HT.out.1⟩
def NewP (n : Nat) (S L K : Nat → Int) (C : ByteArray) (c : Nat) (w : World) (e : Ending) (w' : World) : Prop := ∃ b g, e = .returned (.pointer (some ⟨b, 0, none⟩)) ∧ PT b g n S L K C c (.slice none 0 0) w' ∧ w.heap.size ≤ b ∧ Below w.heap.size w w'
set_option maxRecDepth 100000 in
set_option maxHeartbeats 1000000 in
theorem make_any (C : ByteArray) (B g n : Nat) (S L K : Nat → Int) (i : Nat) (w0 w : World) (h : TR B g n n S L K w0 w) :
    Calls Tryf.prog 14 #[.string C, .slice (some ⟨g, 0, none⟩) n n, .int .i64 i] w (NewP n S L K C i w) := by
  have HT := Lib.hid h
  clear h
  go_enter Tryf.func14, Tryf.ntmps14
  go_wp2_with fail
  go_ret
  obtain ⟨h1, h2, h3, h4, h5, h6⟩ := HT.out
  refine ⟨w.heap.size, g, rfl, ⟨⟨by simp, by simp, by simp, by simp, by simp, by simp⟩, fun j hj => ?_, by omega⟩, Nat.le_refl _, (Below.refl _ _).alloc (Nat.le_refl _) _⟩
  obtain ⟨a, b, c, d, e⟩ := h1 j hj
  exact ⟨alloc_cell a _, alloc_cell b _, alloc_cell c _, alloc_cell d _, alloc_cell e _⟩
def ZpcP (n i : Nat) (Q : Nat → Int) (w : World) (e : Ending) (w' : World) : Prop := ∃ r : Nat, e = .returned (.int .i64 r) ∧ Below w.heap.size w w' ∧
  (0 ≤ cl (Q i) → M n Q [cl (Q i)] (i + 1) = some r) ∧ (¬ 0 ≤ cl (Q i) → r = i + 1)
set_option maxRecDepth 100000 in
set_option maxHeartbeats 1000000 in
theorem zpc_any (C : ByteArray) (B g n : Nat) (S L Q : Nat → Int) (hn : (n : Int) ≤ 1048576) (hQ : ∀ j, j < n → 0 ≤ Q j ∧ Q j ≤ 14) (i : Nat) (hi : i < n) (w0 w : World) (h : TR B g n n S L (fun j => kd (Q j)) w0 w)
    (hx : 0 ≤ cl (Q i) → ∃ e, M n Q [cl (Q i)] (i + 1) = some e) :
    Calls Tryf.prog 8 #[.string C, .slice (some ⟨g, 0, none⟩) n n, .int .i64 i] w (ZpcP n i Q w) := by
  have HT := Lib.hid h
  have HQ := Lib.hid hQ
  have HX := Lib.hid hx
  clear h hQ hx
  go_enter Tryf.func8, Tryf.ntmps8
  go_wp2_with fail
  refine (make_any C B g n S L _ i w0 w HT.out).mono ?_
  rintro e w1 ⟨b, g2, rfl, hp, hb, hbel⟩
  have HP := Lib.hid hp
  have HB := Lib.hid (And.intro hb hbel)
  clear hp hb hbel HT
  go_wp2_with fail
  refine (pcv_any b g2 n S L Q C (.slice none 0 0) hn HQ.out (n - i) i w1 (Nat.le_refl _) hi HP.out (fun h0 => by obtain ⟨e, he⟩ := HX.out h0; exact ⟨[], e, he⟩)).mono ?_
  rintro e w2 ⟨j, rfl, h1, h2, h3, h4, h5, h6⟩
  have c42 := h3.1.2.1
  have HR := Lib.hid (show Below w.heap.size w w2 from HB.out.2.grown h4 HB.out.2.size (fun q hq => by injection hq with hq; have := HB.out.1; omega))
  have HF : Hid ((0 ≤ cl (Q i) → M n Q [cl (Q i)] (i + 1) = some j) ∧ (¬ 0 ≤ cl (Q i) → j = i + 1)) := Lib.hid ⟨fun h0 => by rw [h5 h0]; exact M_nil, h6⟩
  clear h3 h4 h5 h6 HB HP
  go_wp2_with fail
  go_ret
  exact ⟨j, rfl, HR.out, HF.out.1, fun h0 => HF.out.2 (by omega)⟩
end Go.Proofs.YtelpdhhcpdagbaaFmt.Av
