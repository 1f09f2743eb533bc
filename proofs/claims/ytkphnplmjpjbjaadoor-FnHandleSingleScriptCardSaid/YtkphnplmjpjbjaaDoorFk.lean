/-
  The verifier's zzFoldKeyword and zzReserved.
-/
import Derived.Test.YtkphnplmjpjbjaaDoorHs
import Derived.Test.YtkphnplmjpjbjaaDoorLw
import Derived.OwnWalk
import Derived.Laws.AppendOwn
import Derived.Lib.IndexBytes
import Derived.Laws.IdiomStrings
namespace Go.Proofs.YtkphnplmjpjbjaaDoor.Sy
open Go.ChangeShapes Go.WideShapes Go.ChangeAt Go.RowKit Rg
set_option linter.unusedVariables false
def cu (x : UInt8) : Value := .int .u8 (x.toNat : Int)
theorem infoB : (Tryd.prog.info? 5).map (fun i => (i.zero, i.size, i.bytes)) = some (some (.int .u8 0), 1, 1) := by kernel_rfl
/-- a folded text under construction: i bytes are read, D is written into block g, of room n -/
structure FR (w0 : World) (g n : Nat) (l : List UInt8) (i : Nat) (D : List UInt8) (w : World) : Prop where
  own : w.ownsRow w0.heap.size 5 1 (.slice (some ⟨g, 0, none⟩) D.length n) D.length (D.map cu)
  below : Below w0.heap.size w0 w
  eq : D ++ folD n (l.drop i) = folD n l
  le : D.length ≤ i
  hi : i ≤ n
  gb : w0.heap.size ≤ g
theorem below_grow {B g : Nat} {w0 w w' : World} (h : Below B w0 w) (hg : w.grownBy w' (some g)) (hb : B ≤ g) (hs : B ≤ w.heap.size) : Below B w0 w' :=
  h.trans ⟨hg.os, hg.tape, hg.output, hg.size, fun i hi => hg.block i (by omega) (fun e => by simp at e; omega)⟩
theorem drop_cons {l : List UInt8} {i : Nat} {x : UInt8} (h : l[i]? = some x) : l.drop i = x :: l.drop (i + 1) := by
  have hi := (List.getElem?_eq_some_iff.1 h).1
  rw [List.drop_eq_getElem_cons hi, (List.getElem?_eq_some_iff.1 h).2]
theorem folD_step {n : Nat} {l : List UInt8} {i : Nat} {x v : UInt8} {d : Nat} (hl : l.length = n) (h : l[i]? = some x) (hf : fol (x :: l.drop (i + 1)) = (v, d)) : folD n (l.drop i) = v :: folD n (l.drop (i + d)) ∧ 1 ≤ d ∧ i + d ≤ n := by
  have hi := (List.getElem?_eq_some_iff.1 h).1
  have hw := fol_w x (l.drop (i + 1))
  rw [hf] at hw
  have hlen : (x :: l.drop (i + 1)).length = n - i := by rw [List.length_cons, List.length_drop]; omega
  rw [hlen] at hw
  refine ⟨?_, hw.1, by omega⟩
  obtain ⟨m, hm⟩ : ∃ m, n = m + 1 := ⟨n - 1, by omega⟩
  have e : folD n (l.drop i) = v :: folD m ((x :: l.drop (i + 1)).drop d) := by
    rw [drop_cons h, hm, folD, hf]
  rw [e, ← drop_cons h, List.drop_drop]
  congr 1
  exact folD_fuel m n _ (by rw [List.length_drop]; omega) (by rw [List.length_drop]; omega)
theorem FR.next {w0 w w2 : World} {g n i d : Nat} {l D : List UInt8} {x v : UInt8} (h : FR w0 g n l i D w) (hl : l.length = n) (hx : l[i]? = some x) (hf : fol (x :: l.drop (i + 1)) = (v, d)) (o : Obj)
    (ho : w2.ownsRow w0.heap.size 5 1 (.slice (some ⟨g, 0, none⟩) (D.length + 1) n) (D.length + 1) (D.map cu ++ [cu v])) (hg : (w.alloc o).grownBy w2 (some g)) : FR w0 g n l (i + d) (D ++ [v]) w2 := by
  obtain ⟨e, d1, d2⟩ := folD_step hl hx hf
  refine ⟨?_, below_grow (h.below.alloc h.below.size o) hg h.gb (by have := h.below.size; simp; omega), ?_, ?_, d2, h.gb⟩
  · rw [List.length_append, List.length_singleton, List.map_append]
    exact ho
  · rw [List.append_assoc, List.singleton_append, ← e]
    exact h.eq
  · rw [List.length_append, List.length_singleton]
    have := h.le
    omega
def foldB (s : ByteArray) : ByteArray := ⟨(folD s.data.toList.length s.data.toList).toArray⟩
theorem own_bytes {w : World} {B g n : Nat} {D : List UInt8} (h : w.ownsRow B 5 1 (.slice (some ⟨g, 0, none⟩) D.length n) D.length (D.map cu)) : ∀ j (hj : j < D.length), w.cell? ((⟨g, 0, none⟩ : Addr).add j) = some (.int .u8 (D[j].toNat : Int)) := by
  intro j hj
  rw [add_none, Nat.zero_add]
  have := own_cell (s := 1) (f := fun i => [cu (D.getD i 0)]) (n := D.length) (i := j) (j := 0) (w := w) (B := B) (e := 5) (g := g) (c := n) (by
    have e : rowg (fun i => [cu (D.getD i 0)]) D.length = D.map cu := by
      apply List.ext_getElem?
      intro k
      by_cases hk : k < D.length
      · have := rowg_at (fun i => [cu (D.getD i 0)]) (s := 1) (fun _ => rfl) D.length k 0 hk (by omega)
        rw [Nat.mul_one, Nat.add_zero] at this
        rw [this]
        simp [hk]
      · rw [List.getElem?_eq_none, List.getElem?_eq_none]
        · simp; omega
        · have := rowg_len (fun i => [cu (D.getD i 0)]) (s := 1) (fun _ => rfl) D.length
          omega
    rw [e]; exact h) (fun _ => rfl) hj rfl
  simpa [cu, hj] using this
theorem up_cu (x : UInt8) (h : x.toNat ≤ 90) : cu (x + 32) = .int .u8 ((x.toNat : Int) + 32) := by
  have : (x + 32).toNat = x.toNat + 32 := by rw [UInt8.toNat_add]; show (x.toNat + 32) % 256 = _; omega
  rw [cu, this]; rfl
theorem fol_up {x : UInt8} {t : List UInt8} (h : 65 ≤ x.toNat ∧ x.toNat ≤ 90) : fol (x :: t) = (x + 32, 1) := by
  unfold fol
  simp only
  rw [if_pos (by omega)]
  have : Lib.isUpperB x = true := by
    unfold Lib.isUpperB
    simp only [Bool.and_eq_true, decide_eq_true_eq, UInt8.le_iff_toNat_le]
    exact ⟨h.1, h.2⟩
  unfold Lib.lowerB
  rw [if_pos this]
theorem fol_b {b : UInt8} {t : List UInt8} (hb : b = 196) (h : t.head? = some 176) : fol (b :: t) = (105, 2) := by
  unfold fol
  simp only
  rw [if_neg (by rw [hb]; decide), if_pos ⟨hb, h⟩]
theorem fol_c {b : UInt8} {t : List UInt8} (hb : b = 226) (h : t.head? = some 132) (h2 : (t.drop 1).head? = some 170) : fol (b :: t) = (107, 3) := by
  unfold fol
  simp only
  rw [if_neg (by rw [hb]; decide), if_neg (fun e => absurd (hb.symm.trans e.1) (by decide)), if_pos ⟨hb, h, h2⟩]
theorem fol_d {x : UInt8} {t : List UInt8} (h : ¬ (65 ≤ x.toNat ∧ x.toNat ≤ 90)) (h1 : ¬ (x = 196 ∧ t.head? = some 176) ∧ ¬ (x = 226 ∧ t.head? = some 132 ∧ (t.drop 1).head? = some 170)) : fol (x :: t) = (x, 1) := by
  unfold fol
  simp only
  split
  · have : Lib.isUpperB x = false := by
      unfold Lib.isUpperB
      rw [Bool.eq_false_iff]
      intro hh
      simp only [Bool.and_eq_true, decide_eq_true_eq, UInt8.le_iff_toNat_le] at hh
      exact h ⟨hh.1, hh.2⟩
    unfold Lib.lowerB
    rw [if_neg (by rw [this]; simp)]
  · rw [if_neg h1.1, if_neg h1.2]
theorem head_at (l : List UInt8) (i : Nat) : (l.drop (i + 1)).head? = l[i + 1]? := by rw [List.head?_drop]
theorem head_at2 (l : List UInt8) (i : Nat) : ((l.drop (i + 1)).drop 1).head? = l[i + 2]? := by rw [List.drop_drop, List.head?_drop]
theorem u8_eq {x : UInt8} {n : Nat} (h : x.toNat = n) (hn : n < 256) : x = UInt8.ofNat n := by rw [← h]; simp
theorem FR.bad {w0 w : World} {g n i : Nat} {l D : List UInt8} {x : UInt8} (h : FR w0 g n l i D w) (hl : l.length = n) (hx : l[i]? = some x) (hf : fol (x :: l.drop (i + 1)) = (x, 1)) (h8 : 128 ≤ x.toNat) : ∃ y ∈ folD n l, 128 ≤ y.toNat := by
  obtain ⟨e, d1, d2⟩ := folD_step hl hx hf
  refine ⟨x, ?_, h8⟩
  rw [← h.eq, e]
  simp
def FkP (s : ByteArray) (w : World) (e : Ending) (w' : World) : Prop := ∃ (r : ByteArray) (ok : Bool), e = .returned (.tuple #[.string r, .bool ok]) ∧ Below w.heap.size w w' ∧
  ((ok = true ∧ r = foldB s ∧ ∀ y ∈ folD s.size s.data.toList, y.toNat < 128) ∨ (ok = false ∧ ∃ y ∈ folD s.size s.data.toList, 128 ≤ y.toNat))
set_option maxRecDepth 100000 in
set_option maxHeartbeats 8000000 in
theorem fk_any (s : ByteArray) (w : World) (hs : (s.size : Int) ≤ 1048576) :
    Calls Tryd.prog 15 #[.string s] w (FkP s w) := by
  obtain ⟨i0, hi0, hz0, hz1, hz2⟩ := info_parts infoB
  have HI0 := Lib.hid (And.intro hi0 (And.intro hz0 (And.intro hz1 hz2)))
  have hbn : i0.bytes * s.size ≤ 281474976710656 := by rw [hz2]; omega
  have hsm : s.size ≤ maxLen := by unfold maxLen; omega
  have hlen : s.data.toList.length = s.size := (Lib.size_eq s).symm
  have HLEN := Lib.hid hlen
  clear hi0 hz0 hz1 hz2 hlen
  go_enter Tryd.func15, Tryd.ntmps15
  go_upto_block 0 with (first | (at_make; refine wpList_make_own _ rfl _ _ 106 rfl w.heap.size 5 i0 _ 1 Tryd.underlying106 HI0.out.1 HI0.out.2.1 HI0.out.2.2.1 _ _ _ s.size rfl rfl rfl hbn hsm (Nat.le_refl _) ?_; intro w1 ho1 hg1))
  have HF : Hid (FR w w.heap.size s.size s.data.toList 0 [] w1) := Lib.hid ⟨ho1, ⟨hg1.os, hg1.tape, hg1.output, hg1.size, fun i hi => hg1.block i hi (by simp)⟩, rfl, Nat.le_refl _, Nat.zero_le _, Nat.le_refl _⟩
  clear ho1 hg1 hbn
  go_wp2_with fail
  go_loopw [4, 5] (fun sb si wr => ∃ (i : Nat) (D : List UInt8), i ≤ s.size ∧ si = .int .i64 i ∧ sb = .slice (some ⟨w.heap.size, 0, none⟩) D.length s.size ∧ Hid (∀ y ∈ D, y.toNat < 128) ∧ Hid (FR w w.heap.size s.size s.data.toList i D wr)) (fun _ si _ => s.size - (intOf si).toNat)
  case atStart => exact ⟨0, [], Nat.zero_le _, rfl, rfl, Lib.hid (fun _ h => by cases h), HF⟩
  case round =>
    clear HF
    obtain ⟨i, D, hi, rfl, rfl, HA, HR⟩ := hrel
    by_cases hlt : i < s.size
    case neg =>
      obtain rfl : i = s.size := by omega
      have q1 : ¬ ((s.size : Nat) : Int) < (s.size : Nat) := by omega
      have hcv := run_convert_bytes_back (P := Tryd.prog) wr 106 9 5 ⟨w.heap.size, 0, none⟩ s.size D Tryd.underlying106 Tryd.underlying5 Tryd.underlying9 (own_bytes HR.out.own)
      have HD : Hid (foldB s = ⟨D.toArray⟩ ∧ folD s.size s.data.toList = D) := Lib.hid (by
        have e := HR.out.eq
        rw [List.drop_of_length_le (by rw [HLEN.out]; exact Nat.le_refl _)] at e
        have e2 : folD s.size ([] : List UInt8) = [] := by cases s.size <;> rfl
        rw [e2, List.append_nil] at e
        exact ⟨by rw [foldB, HLEN.out, ← e], e.symm⟩)
      go_wp2_with fail
      go_ret2
      exact ⟨_, true, rfl, HR.out.below, .inl ⟨rfl, HD.out.1.symm, by rw [HD.out.2]; exact HA.out⟩⟩
    have q0 : (0 : Int) ≤ i := by omega
    have q1 : (i : Int) < (s.size : Int) := by omega
    obtain ⟨x, hx⟩ : ∃ x : UInt8, s[i] = x := ⟨_, rfl⟩
    have HX : Hid (s.data.toList[i]? = some x) := Lib.hid (by rw [← hx]; exact Lib.data_getElem? s i hlt)
    have hx256 := x.toNat_lt
    have hdl : D.length + 1 ≤ s.size := by have := HR.out.le; omega
    have HO : Hid (∀ o, (wr.alloc o).ownsRow w.heap.size 5 1 (.slice (some ⟨w.heap.size, 0, none⟩) D.length s.size) D.length (D.map cu)) := Lib.hid fun o => World.ownsRow.alloc HR.out.own _
    by_cases x8 : x.toNat < 128
    · have a8 : (x.toNat : Int) < 128 := by omega
      by_cases u0 : 65 ≤ x.toNat ∧ x.toNat ≤ 90
      · have a1 : (65 : Int) ≤ x.toNat := by omega
        have a2 : (x.toNat : Int) ≤ 90 := by omega
        have HFO : Hid (fol ((x : UInt8) :: s.data.toList.drop (i + 1)) = ((x + 32), 1)) := Lib.hid (fol_up u0)
        have HA2 : Hid (∀ y ∈ D ++ [(x + 32)], y.toNat < 128) := Lib.hid (fun y hy => by rcases List.mem_append.1 hy with h | h; exact HA.out y h; rw [List.mem_singleton] at h; subst h; (have h32 : (x + 32).toNat = x.toNat + 32 := (by rw [UInt8.toNat_add]; show (x.toNat + 32) % 256 = _; omega)); omega)
        clear HA
        go_wp2_with (first | (at_builtin; refine wpList_append_fits _ rfl (.tmp 27) (.tmp 29) 106 rfl w.heap.size 5 i0 1 Tryd.underlying106 HI0.out.1 HI0.out.2.2.1 w.heap.size D.length s.size (D.map cu) (by rfl) (HO.out _) ⟨wr.heap.size, 0, none⟩ 1 1 [.int .u8 ((x.toNat : Int) + 32)] (by rfl) rfl (World.news_of_block (cs := #[.int .u8 ((x.toNat : Int) + 32)]) (heap_alloc_new wr _)) (by simp [Value.oneCell']) hdl ?_; intro w2 ho2 hg2; have HN := Lib.hid (HR.out.next HLEN.out HX.out HFO.out _ (by rw [up_cu x u0.2]; exact ho2) hg2); clear ho2 hg2))
        exact ⟨⟨i + 1, D ++ [(x + 32)], by have := HN.out.hi; omega, by go_num, by simp, HA2, HN⟩, by simp [intOf]; omega⟩
      have h0 := Lib.hid u0
      have HNE : Hid (¬ x = 196 ∧ ¬ x = 226) := Lib.hid ⟨fun h => by rw [h] at x8; exact absurd x8 (by decide), fun h => by rw [h] at x8; exact absurd x8 (by decide)⟩
      by_cases k5 : (65 : Int) ≤ x.toNat
      · have k6 : ¬ (x.toNat : Int) ≤ 90 := by omega
        clear u0
        have HFO : Hid (fol ((x : UInt8) :: s.data.toList.drop (i + 1)) = (x, 1)) := Lib.hid (fol_d h0.out ⟨fun h => HNE.out.1 h.1, fun h => HNE.out.2 h.1⟩)
        have HA2 : Hid (∀ y ∈ D ++ [x], y.toNat < 128) := Lib.hid (fun y hy => by rcases List.mem_append.1 hy with h | h; exact HA.out y h; rw [List.mem_singleton] at h; subst h; exact x8)
        clear HA
        go_wp2_with (first | (at_builtin; refine wpList_append_fits _ rfl (.tmp 27) (.tmp 29) 106 rfl w.heap.size 5 i0 1 Tryd.underlying106 HI0.out.1 HI0.out.2.2.1 w.heap.size D.length s.size (D.map cu) (by rfl) (HO.out _) ⟨wr.heap.size, 0, none⟩ 1 1 [.int .u8 (x.toNat : Int)] (by rfl) rfl (World.news_of_block (cs := #[.int .u8 (x.toNat : Int)]) (heap_alloc_new wr _)) (by simp [Value.oneCell']) hdl ?_; intro w2 ho2 hg2; have HN := Lib.hid (HR.out.next HLEN.out HX.out HFO.out _ (by exact ho2) hg2); clear ho2 hg2))
        exact ⟨⟨i + 1, D ++ [x], by have := HN.out.hi; omega, by go_num, by simp, HA2, HN⟩, by simp [intOf]; omega⟩
      · clear u0
        have HFO : Hid (fol ((x : UInt8) :: s.data.toList.drop (i + 1)) = (x, 1)) := Lib.hid (fol_d h0.out ⟨fun h => HNE.out.1 h.1, fun h => HNE.out.2 h.1⟩)
        have HA2 : Hid (∀ y ∈ D ++ [x], y.toNat < 128) := Lib.hid (fun y hy => by rcases List.mem_append.1 hy with h | h; exact HA.out y h; rw [List.mem_singleton] at h; subst h; exact x8)
        clear HA
        go_wp2_with (first | (at_builtin; refine wpList_append_fits _ rfl (.tmp 27) (.tmp 29) 106 rfl w.heap.size 5 i0 1 Tryd.underlying106 HI0.out.1 HI0.out.2.2.1 w.heap.size D.length s.size (D.map cu) (by rfl) (HO.out _) ⟨wr.heap.size, 0, none⟩ 1 1 [.int .u8 (x.toNat : Int)] (by rfl) rfl (World.news_of_block (cs := #[.int .u8 (x.toNat : Int)]) (heap_alloc_new wr _)) (by simp [Value.oneCell']) hdl ?_; intro w2 ho2 hg2; have HN := Lib.hid (HR.out.next HLEN.out HX.out HFO.out _ (by exact ho2) hg2); clear ho2 hg2))
        exact ⟨⟨i + 1, D ++ [x], by have := HN.out.hi; omega, by go_num, by simp, HA2, HN⟩, by simp [intOf]; omega⟩
    have a8 : ¬ (x.toNat : Int) < 128 := by omega
    have h0 : Hid (¬ (65 ≤ x.toNat ∧ x.toNat ≤ 90)) := Lib.hid (by omega)
    by_cases k1 : x.toNat = 196
    · obtain rfl : x = 196 := u8_eq k1 (by decide)
      clear a8 hx256
      by_cases h1 : i + 1 < s.size
      · have q2 : (i : Int) + 1 < (s.size : Int) := by omega
        obtain ⟨y, hy⟩ : ∃ y : UInt8, s[i + 1] = y := ⟨_, rfl⟩
        have HY : Hid (s.data.toList[i + 1]? = some y) := Lib.hid (by rw [← hy]; exact Lib.data_getElem? s (i + 1) h1)
        by_cases k2 : y.toNat = 176
        · obtain rfl : y = 176 := u8_eq k2 (by decide)
          have HFO : Hid (fol ((196 : UInt8) :: s.data.toList.drop (i + 1)) = (105, 2)) := Lib.hid (fol_b rfl (by rw [head_at]; exact HY.out))
          have HA2 : Hid (∀ y ∈ D ++ [105], y.toNat < 128) := Lib.hid (fun y hy => by rcases List.mem_append.1 hy with h | h; exact HA.out y h; rw [List.mem_singleton] at h; subst h; decide)
          clear HA
          go_wp2_with (first | (at_builtin; refine wpList_append_fits _ rfl (.tmp 49) (.tmp 50) 106 rfl w.heap.size 5 i0 1 Tryd.underlying106 HI0.out.1 HI0.out.2.2.1 w.heap.size D.length s.size (D.map cu) (by rfl) (HO.out _) ⟨wr.heap.size, 0, none⟩ 1 1 [.int .u8 105] (by rfl) rfl (World.news_of_block (cs := #[.int .u8 105]) (heap_alloc_new wr _)) (by simp [Value.oneCell']) hdl ?_; intro w2 ho2 hg2; have HN := Lib.hid (HR.out.next HLEN.out HX.out HFO.out _ (by exact ho2) hg2); clear ho2 hg2))
          exact ⟨⟨i + 2, D ++ [105], by have := HN.out.hi; omega, by go_num, by simp, HA2, HN⟩, by simp [intOf]; omega⟩
        · have k3 : ¬ (y.toNat : Int) = 176 := by omega
          have HFO : Hid (fol ((196 : UInt8) :: s.data.toList.drop (i + 1)) = (196, 1)) := Lib.hid (fol_d h0.out ⟨fun h => by have := h.2; rw [head_at, HY.out] at this; exact k2 (by rw [Option.some.inj this]; rfl), fun h => absurd h.1 (by decide)⟩)
          have HBD : Hid (∃ y ∈ folD s.size s.data.toList, 128 ≤ y.toNat) := Lib.hid (HR.out.bad HLEN.out HX.out HFO.out (by decide))
          go_wp2_with fail
          go_ret2
          exact ⟨⟨#[]⟩, false, rfl, HR.out.below, .inr ⟨rfl, HBD.out⟩⟩
      · have q2 : ¬ (i : Int) + 1 < (s.size : Int) := by omega
        have HFO : Hid (fol ((196 : UInt8) :: s.data.toList.drop (i + 1)) = (196, 1)) := Lib.hid (fol_d h0.out ⟨fun h => by have := h.2; rw [head_at, List.getElem?_eq_none (by rw [HLEN.out]; omega)] at this; exact absurd this (by simp), fun h => absurd h.1 (by decide)⟩)
        have HBD : Hid (∃ y ∈ folD s.size s.data.toList, 128 ≤ y.toNat) := Lib.hid (HR.out.bad HLEN.out HX.out HFO.out (by decide))
        go_wp2_with fail
        go_ret2
        exact ⟨⟨#[]⟩, false, rfl, HR.out.below, .inr ⟨rfl, HBD.out⟩⟩
    by_cases k2 : x.toNat = 226
    · obtain rfl : x = 226 := u8_eq k2 (by decide)
      clear a8 hx256 k1
      by_cases h1 : i + 2 < s.size
      · have q2 : (i : Int) + 2 < (s.size : Int) := by omega
        have q3 : (i : Int) + 1 < (s.size : Int) := by omega
        obtain ⟨y, hy⟩ : ∃ y : UInt8, s[i + 1] = y := ⟨_, rfl⟩
        have HY : Hid (s.data.toList[i + 1]? = some y) := Lib.hid (by rw [← hy]; exact Lib.data_getElem? s (i + 1) (by omega))
        obtain ⟨z, hz⟩ : ∃ z : UInt8, s[i + 2] = z := ⟨_, rfl⟩
        have HZ : Hid (s.data.toList[i + 2]? = some z) := Lib.hid (by rw [← hz]; exact Lib.data_getElem? s (i + 2) h1)
        by_cases k2 : y.toNat = 132
        · obtain rfl : y = 132 := u8_eq k2 (by decide)
          by_cases k3 : z.toNat = 170
          · obtain rfl : z = 170 := u8_eq k3 (by decide)
            have HFO : Hid (fol ((226 : UInt8) :: s.data.toList.drop (i + 1)) = (107, 3)) := Lib.hid (fol_c rfl (by rw [head_at]; exact HY.out) (by rw [head_at2]; exact HZ.out))
            have HA2 : Hid (∀ y ∈ D ++ [107], y.toNat < 128) := Lib.hid (fun y hy => by rcases List.mem_append.1 hy with h | h; exact HA.out y h; rw [List.mem_singleton] at h; subst h; decide)
            clear HA
            go_wp2_with (first | (at_builtin; refine wpList_append_fits _ rfl (.tmp 77) (.tmp 78) 106 rfl w.heap.size 5 i0 1 Tryd.underlying106 HI0.out.1 HI0.out.2.2.1 w.heap.size D.length s.size (D.map cu) (by rfl) (HO.out _) ⟨wr.heap.size, 0, none⟩ 1 1 [.int .u8 107] (by rfl) rfl (World.news_of_block (cs := #[.int .u8 107]) (heap_alloc_new wr _)) (by simp [Value.oneCell']) hdl ?_; intro w2 ho2 hg2; have HN := Lib.hid (HR.out.next HLEN.out HX.out HFO.out _ (by exact ho2) hg2); clear ho2 hg2))
            exact ⟨⟨i + 3, D ++ [107], by have := HN.out.hi; omega, by go_num, by simp, HA2, HN⟩, by simp [intOf]; omega⟩
          · have k4 : ¬ (z.toNat : Int) = 170 := by omega
            have HFO : Hid (fol ((226 : UInt8) :: s.data.toList.drop (i + 1)) = (226, 1)) := Lib.hid (fol_d h0.out ⟨fun h => absurd h.1 (by decide), fun h => by have := h.2.2; rw [head_at2, HZ.out] at this; exact k3 (by rw [Option.some.inj this]; rfl)⟩)
            have HBD : Hid (∃ y ∈ folD s.size s.data.toList, 128 ≤ y.toNat) := Lib.hid (HR.out.bad HLEN.out HX.out HFO.out (by decide))
            go_wp2_with fail
            go_ret2
            exact ⟨⟨#[]⟩, false, rfl, HR.out.below, .inr ⟨rfl, HBD.out⟩⟩
        · have k4 : ¬ (y.toNat : Int) = 132 := by omega
          have HFO : Hid (fol ((226 : UInt8) :: s.data.toList.drop (i + 1)) = (226, 1)) := Lib.hid (fol_d h0.out ⟨fun h => absurd h.1 (by decide), fun h => by have := h.2.1; rw [head_at, HY.out] at this; exact k2 (by rw [Option.some.inj this]; rfl)⟩)
          have HBD : Hid (∃ y ∈ folD s.size s.data.toList, 128 ≤ y.toNat) := Lib.hid (HR.out.bad HLEN.out HX.out HFO.out (by decide))
          go_wp2_with fail
          go_ret2
          exact ⟨⟨#[]⟩, false, rfl, HR.out.below, .inr ⟨rfl, HBD.out⟩⟩
      · have q2 : ¬ (i : Int) + 2 < (s.size : Int) := by omega
        have HFO : Hid (fol ((226 : UInt8) :: s.data.toList.drop (i + 1)) = (226, 1)) := Lib.hid (fol_d h0.out ⟨fun h => absurd h.1 (by decide), fun h => by have := h.2.2; rw [head_at2, List.getElem?_eq_none (by rw [HLEN.out]; omega)] at this; cases this⟩)
        have HBD : Hid (∃ y ∈ folD s.size s.data.toList, 128 ≤ y.toNat) := Lib.hid (HR.out.bad HLEN.out HX.out HFO.out (by decide))
        go_wp2_with fail
        go_ret2
        exact ⟨⟨#[]⟩, false, rfl, HR.out.below, .inr ⟨rfl, HBD.out⟩⟩
    · have k3 : ¬ (x.toNat : Int) = 196 := by omega
      have k4 : ¬ (x.toNat : Int) = 226 := by omega
      have HK := Lib.hid (And.intro k1 k2)
      have HX8 := Lib.hid x8
      clear k1 k2 hx256 x8
      have HFO : Hid (fol ((x : UInt8) :: s.data.toList.drop (i + 1)) = (x, 1)) := Lib.hid (fol_d h0.out ⟨fun h => HK.out.1 (by rw [h.1]; rfl), fun h => HK.out.2 (by rw [h.1]; rfl)⟩)
      have HBD : Hid (∃ y ∈ folD s.size s.data.toList, 128 ≤ y.toNat) := Lib.hid (HR.out.bad HLEN.out HX.out HFO.out (by have := HX8.out; omega))
      go_wp2_with fail
      go_ret2
      exact ⟨⟨#[]⟩, false, rfl, HR.out.below, .inr ⟨rfl, HBD.out⟩⟩
/-- the seven words -/
def words : List (List UInt8) := [[110, 111, 110, 101], [105, 110, 105, 116, 105, 97, 108], [105, 110, 104, 101, 114, 105, 116], [117, 110, 115, 101, 116], [100, 101, 102, 97, 117, 108, 116], [114, 101, 118, 101, 114, 116], [114, 101, 118, 101, 114, 116, 45, 108, 97, 121, 101, 114]]
set_option maxRecDepth 100000 in
theorem look_css (u : ByteArray) : lookD (.map cssL) u = decide (u.data.toList ∈ words.tail) := by
  unfold lookD
  generalize u.data.toList = l
  by_cases e1 : l = [100, 101, 102, 97, 117, 108, 116]
  · subst e1; rfl
  by_cases e2 : l = [105, 110, 104, 101, 114, 105, 116]
  · subst e2; rfl
  by_cases e3 : l = [105, 110, 105, 116, 105, 97, 108]
  · subst e3; rfl
  by_cases e4 : l = [114, 101, 118, 101, 114, 116]
  · subst e4; rfl
  by_cases e5 : l = [114, 101, 118, 101, 114, 116, 45, 108, 97, 121, 101, 114]
  · subst e5; rfl
  by_cases e6 : l = [117, 110, 115, 101, 116]
  · subst e6; rfl
  have hn : (cssL.find? fun p => p.1.sameKey (.string l)) = none := List.find?_eq_none.2 (fun p hp => by
    simp only [cssL, List.mem_cons, List.not_mem_nil, or_false] at hp
    rcases hp with rfl | rfl | rfl | rfl | rfl | rfl
    · exact fun h => e1 (eq_of_beq h).symm
    · exact fun h => e2 (eq_of_beq h).symm
    · exact fun h => e3 (eq_of_beq h).symm
    · exact fun h => e4 (eq_of_beq h).symm
    · exact fun h => e5 (eq_of_beq h).symm
    · exact fun h => e6 (eq_of_beq h).symm)
  have ha : DataW.atKey (H := Unit) (.map cssL) (.string l) (.lit (.bool false)) = .lit (.bool false) := by
    unfold DataW.atKey
    simp only [hn]
  show (match DataW.atKey (H := Unit) (.map cssL) (.string l) (.lit (.bool false)) with | .lit (.bool x) => x | _ => false) = _
  rw [ha]
  refine (decide_eq_false ?_).symm
  intro h
  simp only [words, List.tail, List.mem_cons, List.not_mem_nil, or_false] at h
  rcases h with h | h | h | h | h | h
  · exact e3 h
  · exact e2 h
  · exact e6 h
  · exact e1 h
  · exact e4 h
  · exact e5 h
theorem rsv_words (s : ByteArray) : rsv s = decide ((lowB s).data.toList ∈ words) := by
  unfold rsv
  rw [look_css, ByteArray.toList_eq]
  generalize (lowB s).data.toList = l
  rw [Bool.eq_iff_iff]
  simp [words, List.tail]
theorem words_low : ∀ l ∈ words, ∀ y ∈ l, y.toNat < 128 := by decide
theorem lowB_list (s : ByteArray) : (lowB s).data.toList = Lib.toLowerD s.data.toList := by simp [lowB]
theorem rsv_ok {s : ByteArray} (h : ∀ y ∈ folD s.size s.data.toList, y.toNat < 128) : rsv s = decide ((foldB s).data.toList ∈ words) := by
  have hl : s.data.toList.length = s.size := (Lib.size_eq s).symm
  rw [rsv_words, lowB_list]
  have h3 := (low_fol s.data.toList.length s.data.toList (Nat.le_refl _)).2 (by rw [hl]; exact h)
  rw [show (foldB s).data.toList = folD s.data.toList.length s.data.toList by simp [foldB], h3]
theorem rsv_no {s : ByteArray} (h : ∃ y ∈ folD s.size s.data.toList, 128 ≤ y.toNat) : rsv s = false := by
  have hl : s.data.toList.length = s.size := (Lib.size_eq s).symm
  rw [rsv_words, lowB_list, decide_eq_false_iff_not]
  intro hw
  obtain ⟨y, hy, h8⟩ := h
  have h3 := (low_fol s.data.toList.length s.data.toList (Nat.le_refl _)).1 (words_low _ hw)
  rw [← hl, h3] at hy
  have := words_low _ hw y hy
  omega
set_option maxRecDepth 100000 in
set_option maxHeartbeats 4000000 in
theorem rs_any (s : ByteArray) (w : World) (hs : (s.size : Int) ≤ 1048576) :
    Calls Tryd.prog 9 #[.string s] w fun e w' => e = .returned (.bool (rsv s)) ∧ Below w.heap.size w w' := by
  have hf := fk_any s w hs
  go_enter Tryd.func9, Tryd.ntmps9
  go_wp2_with fail
  refine hf.mono ?_
  clear hf
  rintro e w2 ⟨r, ok, rfl, hb, h⟩
  have HB := Lib.hid hb
  clear hb
  rcases h with ⟨rfl, rfl, h⟩ | ⟨rfl, h⟩
  case inr =>
    have HR := Lib.hid (rsv_no h)
    clear h
    go_wp2_with fail
    go_ret
    exact ⟨by rw [HR.out]; rfl, HB.out⟩
  have HR := Lib.hid (rsv_ok h)
  clear h
  generalize foldB s = u at *
  have hu : u.toList = u.data.toList := by rw [ByteArray.toList_eq]
  have HU := Lib.hid hu
  clear hu
  rcases Bool.eq_false_or_eq_true (u.toList == [110, 111, 110, 101]) with g0 | g0
  · have HQ : Hid (rsv s = true) := Lib.hid (by rw [HR.out, ← HU.out, eq_of_beq g0]; decide)
    clear HR
    go_wp2_with fail
    all_goals go_ret
    all_goals exact ⟨by rw [HQ.out]; rfl, HB.out⟩
  rcases Bool.eq_false_or_eq_true (u.toList == [105, 110, 105, 116, 105, 97, 108]) with g1 | g1
  · have HQ : Hid (rsv s = true) := Lib.hid (by rw [HR.out, ← HU.out, eq_of_beq g1]; decide)
    clear HR
    go_wp2_with fail
    all_goals go_ret
    all_goals exact ⟨by rw [HQ.out]; rfl, HB.out⟩
  rcases Bool.eq_false_or_eq_true (u.toList == [105, 110, 104, 101, 114, 105, 116]) with g2 | g2
  · have HQ : Hid (rsv s = true) := Lib.hid (by rw [HR.out, ← HU.out, eq_of_beq g2]; decide)
    clear HR
    go_wp2_with fail
    all_goals go_ret
    all_goals exact ⟨by rw [HQ.out]; rfl, HB.out⟩
  rcases Bool.eq_false_or_eq_true (u.toList == [117, 110, 115, 101, 116]) with g3 | g3
  · have HQ : Hid (rsv s = true) := Lib.hid (by rw [HR.out, ← HU.out, eq_of_beq g3]; decide)
    clear HR
    go_wp2_with fail
    all_goals go_ret
    all_goals exact ⟨by rw [HQ.out]; rfl, HB.out⟩
  rcases Bool.eq_false_or_eq_true (u.toList == [100, 101, 102, 97, 117, 108, 116]) with g4 | g4
  · have HQ : Hid (rsv s = true) := Lib.hid (by rw [HR.out, ← HU.out, eq_of_beq g4]; decide)
    clear HR
    go_wp2_with fail
    all_goals go_ret
    all_goals exact ⟨by rw [HQ.out]; rfl, HB.out⟩
  rcases Bool.eq_false_or_eq_true (u.toList == [114, 101, 118, 101, 114, 116]) with g5 | g5
  · have HQ : Hid (rsv s = true) := Lib.hid (by rw [HR.out, ← HU.out, eq_of_beq g5]; decide)
    clear HR
    go_wp2_with fail
    all_goals go_ret
    all_goals exact ⟨by rw [HQ.out]; rfl, HB.out⟩
  rcases Bool.eq_false_or_eq_true (u.toList == [114, 101, 118, 101, 114, 116, 45, 108, 97, 121, 101, 114]) with g6 | g6
  · have HQ : Hid (rsv s = true) := Lib.hid (by rw [HR.out, ← HU.out, eq_of_beq g6]; decide)
    clear HR
    go_wp2_with fail
    all_goals go_ret
    all_goals exact ⟨by rw [HQ.out]; rfl, HB.out⟩
  have HQ : Hid (rsv s = false) := Lib.hid (by
    rw [HR.out, ← HU.out, decide_eq_false_iff_not]
    intro h
    simp only [words, List.mem_cons, List.not_mem_nil, or_false] at h
    rcases h with h | h | h | h | h | h | h
    · rw [h] at g0; simp at g0
    · rw [h] at g1; simp at g1
    · rw [h] at g2; simp at g2
    · rw [h] at g3; simp at g3
    · rw [h] at g4; simp at g4
    · rw [h] at g5; simp at g5
    · rw [h] at g6; simp at g6)
  clear HR
  go_wp2_with fail
  go_ret
  exact ⟨by rw [HQ.out]; rfl, HB.out⟩
end Go.Proofs.YtkphnplmjpjbjaaDoor.Sy
