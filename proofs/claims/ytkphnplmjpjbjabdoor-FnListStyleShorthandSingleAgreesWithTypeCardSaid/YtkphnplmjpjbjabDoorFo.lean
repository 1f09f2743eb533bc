/-
  The verifier's zzFold.
-/
import Derived.Test.YtkphnplmjpjbjabDoorEn
import Derived.Test.YtkphnplmjpjbjabDoorLw
import Derived.OwnWalk
import Derived.Laws.AppendOwn
import Derived.Lib.IndexBytes
import Derived.Laws.IdiomStrings
namespace Go.Proofs.YtkphnplmjpjbjabDoor.Sy
open Go.ChangeShapes Go.WideShapes Go.ChangeAt Go.RowKit Rg
set_option linter.unusedVariables false
def cu (x : UInt8) : Value := .int .u8 (x.toNat : Int)
theorem infoB : (Tryd.prog.info? 5).map (fun i => (i.zero, i.size, i.bytes)) = some (some (.int .u8 0), 1, 1) := by kernel_rfl
/-- a folded text under construction: i bytes are read, D is written into block g, of room n -/
structure FR (w0 : World) (g n : Nat) (l : List UInt8) (i : Nat) (D : List UInt8) (w : World) : Prop where
  own : w.ownsRow w0.heap.size 5 1 (.slice (some ⟨g, 0, none⟩) D.length n) D.length (D.map cu)
  below : Below w0.heap.size w0 w
  eq : D ++ folD n (l.drop i) = folD n l
  le : D.length ≤ i
  hi : i ≤ n
  gb : w0.heap.size ≤ g
theorem below_grow {B g : Nat} {w0 w w' : World} (h : Below B w0 w) (hg : w.grownBy w' (some g)) (hb : B ≤ g) (hs : B ≤ w.heap.size) : Below B w0 w' :=
  h.trans ⟨hg.os, hg.tape, hg.output, hg.size, fun i hi => hg.block i (by omega) (fun e => by simp at e; omega)⟩
theorem drop_cons {l : List UInt8} {i : Nat} {x : UInt8} (h : l[i]? = some x) : l.drop i = x :: l.drop (i + 1) := by
  have hi := (List.getElem?_eq_some_iff.1 h).1
  rw [List.drop_eq_getElem_cons hi, (List.getElem?_eq_some_iff.1 h).2]
theorem folD_step {n : Nat} {l : List UInt8} {i : Nat} {x v : UInt8} {d : Nat} (hl : l.length = n) (h : l[i]? = some x) (hf : fol (x :: l.drop (i + 1)) = (v, d)) : folD n (l.drop i) = v :: folD n (l.drop (i + d)) ∧ 1 ≤ d ∧ i + d ≤ n := by
  have hi := (List.getElem?_eq_some_iff.1 h).1
  have hw := fol_w x (l.drop (i + 1))
  rw [hf] at hw
  have hlen : (x :: l.drop (i + 1)).length = n - i := by rw [List.length_cons, List.length_drop]; omega
  rw [hlen] at hw
  refine ⟨?_, hw.1, by omega⟩
  obtain ⟨m, hm⟩ : ∃ m, n = m + 1 := ⟨n - 1, by omega⟩
  have e : folD n (l.drop i) = v :: folD m ((x :: l.drop (i + 1)).drop d) := by
    rw [drop_cons h, hm, folD, hf]
  rw [e, ← drop_cons h, List.drop_drop]
  congr 1
  exact folD_fuel m n _ (by rw [List.length_drop]; omega) (by rw [List.length_drop]; omega)
theorem FR.next {w0 w w2 : World} {g n i d : Nat} {l D : List UInt8} {x v : UInt8} (h : FR w0 g n l i D w) (hl : l.length = n) (hx : l[i]? = some x) (hf : fol (x :: l.drop (i + 1)) = (v, d)) (o : Obj)
    (ho : w2.ownsRow w0.heap.size 5 1 (.slice (some ⟨g, 0, none⟩) (D.length + 1) n) (D.length + 1) (D.map cu ++ [cu v])) (hg : (w.alloc o).grownBy w2 (some g)) : FR w0 g n l (i + d) (D ++ [v]) w2 := by
  obtain ⟨e, d1, d2⟩ := folD_step hl hx hf
  refine ⟨?_, below_grow (h.below.alloc h.below.size o) hg h.gb (by have := h.below.size; simp; omega), ?_, ?_, d2, h.gb⟩
  · rw [List.length_append, List.length_singleton, List.map_append]
    exact ho
  · rw [List.append_assoc, List.singleton_append, ← e]
    exact h.eq
  · rw [List.length_append, List.length_singleton]
    have := h.le
    omega
def foldB (s : ByteArray) : ByteArray := ⟨(folD s.data.toList.length s.data.toList).toArray⟩
theorem own_bytes {w : World} {B g n : Nat} {D : List UInt8} (h : w.ownsRow B 5 1 (.slice (some ⟨g, 0, none⟩) D.length n) D.length (D.map cu)) : ∀ j (hj : j < D.length), w.cell? ((⟨g, 0, none⟩ : Addr).add j) = some (.int .u8 (D[j].toNat : Int)) := by
  intro j hj
  rw [add_none, Nat.zero_add]
  have := own_cell (s := 1) (f := fun i => [cu (D.getD i 0)]) (n := D.length) (i := j) (j := 0) (w := w) (B := B) (e := 5) (g := g) (c := n) (by
    have e : rowg (fun i => [cu (D.getD i 0)]) D.length = D.map cu := by
      apply List.ext_getElem?
      intro k
      by_cases hk : k < D.length
      · have := rowg_at (fun i => [cu (D.getD i 0)]) (s := 1) (fun _ => rfl) D.length k 0 hk (by omega)
        rw [Nat.mul_one, Nat.add_zero] at this
        rw [this]
        simp [hk]
      · rw [List.getElem?_eq_none, List.getElem?_eq_none]
        · simp; omega
        · have := rowg_len (fun i => [cu (D.getD i 0)]) (s := 1) (fun _ => rfl) D.length
          omega
    rw [e]; exact h) (fun _ => rfl) hj rfl
  simpa [cu, hj] using this
def FoP (s : ByteArray) (w : World) (e : Ending) (w' : World) : Prop := e = .returned (.string (foldB s)) ∧ Below w.heap.size w w'
theorem up_cu (x : UInt8) (h : x.toNat ≤ 90) : cu (x + 32) = .int .u8 ((x.toNat : Int) + 32) := by
  have : (x + 32).toNat = x.toNat + 32 := by rw [UInt8.toNat_add]; show (x.toNat + 32) % 256 = _; omega
  rw [cu, this]; rfl
theorem fol_up {x : UInt8} {t : List UInt8} (h : 65 ≤ x.toNat ∧ x.toNat ≤ 90) : fol (x :: t) = (x + 32, 1) := by
  unfold fol
  simp only
  rw [if_pos (by omega)]
  have : Lib.isUpperB x = true := by
    unfold Lib.isUpperB
    simp only [Bool.and_eq_true, decide_eq_true_eq, UInt8.le_iff_toNat_le]
    exact ⟨h.1, h.2⟩
  unfold Lib.lowerB
  rw [if_pos this]
theorem fol_b {b : UInt8} {t : List UInt8} (hb : b = 196) (h : t.head? = some 176) : fol (b :: t) = (105, 2) := by
  unfold fol
  simp only
  rw [if_neg (by rw [hb]; decide), if_pos ⟨hb, h⟩]
theorem fol_c {b : UInt8} {t : List UInt8} (hb : b = 226) (h : t.head? = some 132) (h2 : (t.drop 1).head? = some 170) : fol (b :: t) = (107, 3) := by
  unfold fol
  simp only
  rw [if_neg (by rw [hb]; decide), if_neg (fun e => absurd (hb.symm.trans e.1) (by decide)), if_pos ⟨hb, h, h2⟩]
theorem fol_d {x : UInt8} {t : List UInt8} (h : ¬ (65 ≤ x.toNat ∧ x.toNat ≤ 90)) (h1 : ¬ (x = 196 ∧ t.head? = some 176) ∧ ¬ (x = 226 ∧ t.head? = some 132 ∧ (t.drop 1).head? = some 170)) : fol (x :: t) = (x, 1) := by
  unfold fol
  simp only
  split
  · have : Lib.isUpperB x = false := by
      unfold Lib.isUpperB
      rw [Bool.eq_false_iff]
      intro hh
      simp only [Bool.and_eq_true, decide_eq_true_eq, UInt8.le_iff_toNat_le] at hh
      exact h ⟨hh.1, hh.2⟩
    unfold Lib.lowerB
    rw [if_neg (by rw [this]; simp)]
  · rw [if_neg h1.1, if_neg h1.2]
theorem head_at (l : List UInt8) (i : Nat) : (l.drop (i + 1)).head? = l[i + 1]? := by rw [List.head?_drop]
theorem head_at2 (l : List UInt8) (i : Nat) : ((l.drop (i + 1)).drop 1).head? = l[i + 2]? := by rw [List.drop_drop, List.head?_drop]
theorem u8_eq {x : UInt8} {n : Nat} (h : x.toNat = n) (hn : n < 256) : x = UInt8.ofNat n := by rw [← h]; simp
set_option maxRecDepth 100000 in
set_option maxHeartbeats 8000000 in
theorem fo_any (s : ByteArray) (w : World) (hs : (s.size : Int) ≤ 1048576) :
    Calls Tryd.prog 6 #[.string s] w (FoP s w) := by
  obtain ⟨i0, hi0, hz0, hz1, hz2⟩ := info_parts infoB
  have HI0 := Lib.hid (And.intro hi0 (And.intro hz0 (And.intro hz1 hz2)))
  have hbn : i0.bytes * s.size ≤ 281474976710656 := by rw [hz2]; omega
  have hsm : s.size ≤ maxLen := by unfold maxLen; omega
  have hlen : s.data.toList.length = s.size := (Lib.size_eq s).symm
  have HLEN := Lib.hid hlen
  clear hi0 hz0 hz1 hz2 hlen
  go_enter Tryd.func6, Tryd.ntmps6
  go_upto_block 0 with (first | (at_make; refine wpList_make_own _ rfl _ _ 42 rfl w.heap.size 5 i0 _ 1 Tryd.underlying42 HI0.out.1 HI0.out.2.1 HI0.out.2.2.1 _ _ _ s.size rfl rfl rfl hbn hsm (Nat.le_refl _) ?_; intro w1 ho1 hg1))
  have HF : Hid (FR w w.heap.size s.size s.data.toList 0 [] w1) := Lib.hid ⟨ho1, ⟨hg1.os, hg1.tape, hg1.output, hg1.size, fun i hi => hg1.block i hi (by simp)⟩, rfl, Nat.le_refl _, Nat.zero_le _, Nat.le_refl _⟩
  clear ho1 hg1 hbn
  go_cut [3] (fun sb wc => ∃ D : List UInt8, sb = .slice (some ⟨w.heap.size, 0, none⟩) D.length s.size ∧ Hid (FR w w.heap.size s.size s.data.toList s.size D wc))
  case first =>
    go_wp2_with fail
    go_loopw [3, 4] (fun sb si wr => ∃ (i : Nat) (D : List UInt8), i ≤ s.size ∧ si = .int .i64 i ∧ sb = .slice (some ⟨w.heap.size, 0, none⟩) D.length s.size ∧ Hid (FR w w.heap.size s.size s.data.toList i D wr)) (fun _ si _ => s.size - (intOf si).toNat)
    case atStart => exact ⟨0, [], Nat.zero_le _, rfl, rfl, HF⟩
    case round =>
      clear HF
      obtain ⟨i, D, hi, rfl, rfl, HR⟩ := hrel
      by_cases hlt : i < s.size
      case neg =>
        obtain rfl : i = s.size := by omega
        have q1 : ¬ ((s.size : Nat) : Int) < (s.size : Nat) := by omega
        go_wp2_with fail
        go_meet
        exact ⟨D, rfl, HR⟩
      have q0 : (0 : Int) ≤ i := by omega
      have q1 : (i : Int) < (s.size : Int) := by omega
      obtain ⟨x, hx⟩ : ∃ x : UInt8, s[i] = x := ⟨_, rfl⟩
      have HX : Hid (s.data.toList[i]? = some x) := Lib.hid (by rw [← hx]; exact Lib.data_getElem? s i hlt)
      have hx256 := x.toNat_lt
      have hdl : D.length + 1 ≤ s.size := by have := HR.out.le; omega
      have HO : Hid (∀ o, (wr.alloc o).ownsRow w.heap.size 5 1 (.slice (some ⟨w.heap.size, 0, none⟩) D.length s.size) D.length (D.map cu)) := Lib.hid fun o => World.ownsRow.alloc HR.out.own _
      by_cases u0 : 65 ≤ x.toNat ∧ x.toNat ≤ 90
      · have a1 : (65 : Int) ≤ x.toNat := by omega
        have a2 : (x.toNat : Int) ≤ 90 := by omega
        have HFO : Hid (fol ((x : UInt8) :: s.data.toList.drop (i + 1)) = ((x + 32), 1)) := Lib.hid (fol_up u0)
        go_wp2_with (first | (at_builtin; refine wpList_append_fits _ rfl (.tmp 22) (.tmp 25) 42 rfl w.heap.size 5 i0 1 Tryd.underlying42 HI0.out.1 HI0.out.2.2.1 w.heap.size D.length s.size (D.map cu) (by rfl) (HO.out _) ⟨wr.heap.size, 0, none⟩ 1 1 [.int .u8 ((x.toNat : Int) + 32)] (by rfl) rfl (World.news_of_block (cs := #[.int .u8 ((x.toNat : Int) + 32)]) (heap_alloc_new wr _)) (by simp [Value.oneCell']) hdl ?_; intro w2 ho2 hg2; have HN := Lib.hid (HR.out.next HLEN.out HX.out HFO.out _ (by rw [up_cu x u0.2]; exact ho2) hg2); clear ho2 hg2))
        exact ⟨⟨i + 1, D ++ [(x + 32)], by have := HN.out.hi; omega, by go_num, by simp, HN⟩, by simp [intOf]; omega⟩
      have h0 := Lib.hid u0
      have a1 : (65 : Int) ≤ x.toNat → ¬ (x.toNat : Int) ≤ 90 := fun h => by omega
      by_cases k1 : x.toNat = 196
      · obtain rfl : x = 196 := u8_eq k1 (by decide)
        clear u0 a1 hx256
        by_cases h1 : i + 1 < s.size
        · have q2 : (i : Int) + 1 < (s.size : Int) := by omega
          obtain ⟨y, hy⟩ : ∃ y : UInt8, s[i + 1] = y := ⟨_, rfl⟩
          have HY : Hid (s.data.toList[i + 1]? = some y) := Lib.hid (by rw [← hy]; exact Lib.data_getElem? s (i + 1) h1)
          by_cases k2 : y.toNat = 176
          · obtain rfl : y = 176 := u8_eq k2 (by decide)
            have HFO : Hid (fol ((196 : UInt8) :: s.data.toList.drop (i + 1)) = (105, 2)) := Lib.hid (fol_b rfl (by rw [head_at]; exact HY.out))
            go_wp2_with (first | (at_builtin; refine wpList_append_fits _ rfl (.tmp 45) (.tmp 46) 42 rfl w.heap.size 5 i0 1 Tryd.underlying42 HI0.out.1 HI0.out.2.2.1 w.heap.size D.length s.size (D.map cu) (by rfl) (HO.out _) ⟨wr.heap.size, 0, none⟩ 1 1 [.int .u8 105] (by rfl) rfl (World.news_of_block (cs := #[.int .u8 105]) (heap_alloc_new wr _)) (by simp [Value.oneCell']) hdl ?_; intro w2 ho2 hg2; have HN := Lib.hid (HR.out.next HLEN.out HX.out HFO.out _ (by exact ho2) hg2); clear ho2 hg2))
            exact ⟨⟨i + 2, D ++ [105], by have := HN.out.hi; omega, by go_num, by simp, HN⟩, by simp [intOf]; omega⟩
          · have k3 : ¬ (y.toNat : Int) = 176 := by omega
            have HFO : Hid (fol ((196 : UInt8) :: s.data.toList.drop (i + 1)) = (196, 1)) := Lib.hid (fol_d h0.out ⟨fun h => by have := h.2; rw [head_at, HY.out] at this; exact k2 (by rw [Option.some.inj this]; rfl), fun h => absurd h.1 (by decide)⟩)
            go_wp2_with (first | (at_builtin; refine wpList_append_fits _ rfl (.tmp 78) (.tmp 80) 42 rfl w.heap.size 5 i0 1 Tryd.underlying42 HI0.out.1 HI0.out.2.2.1 w.heap.size D.length s.size (D.map cu) (by rfl) (HO.out _) ⟨wr.heap.size, 0, none⟩ 1 1 [.int .u8 196] (by rfl) rfl (World.news_of_block (cs := #[.int .u8 196]) (heap_alloc_new wr _)) (by simp [Value.oneCell']) hdl ?_; intro w2 ho2 hg2; have HN := Lib.hid (HR.out.next HLEN.out HX.out HFO.out _ (by exact ho2) hg2); clear ho2 hg2))
            exact ⟨⟨i + 1, D ++ [196], by have := HN.out.hi; omega, by go_num, by simp, HN⟩, by simp [intOf]; omega⟩
        · have q2 : ¬ (i : Int) + 1 < (s.size : Int) := by omega
          have HFO : Hid (fol ((196 : UInt8) :: s.data.toList.drop (i + 1)) = (196, 1)) := Lib.hid (fol_d h0.out ⟨fun h => by have := h.2; rw [head_at, List.getElem?_eq_none (by rw [HLEN.out]; omega)] at this; exact absurd this (by simp), fun h => absurd h.1 (by decide)⟩)
          go_wp2_with (first | (at_builtin; refine wpList_append_fits _ rfl (.tmp 78) (.tmp 80) 42 rfl w.heap.size 5 i0 1 Tryd.underlying42 HI0.out.1 HI0.out.2.2.1 w.heap.size D.length s.size (D.map cu) (by rfl) (HO.out _) ⟨wr.heap.size, 0, none⟩ 1 1 [.int .u8 196] (by rfl) rfl (World.news_of_block (cs := #[.int .u8 196]) (heap_alloc_new wr _)) (by simp [Value.oneCell']) hdl ?_; intro w2 ho2 hg2; have HN := Lib.hid (HR.out.next HLEN.out HX.out HFO.out _ (by exact ho2) hg2); clear ho2 hg2))
          exact ⟨⟨i + 1, D ++ [196], by have := HN.out.hi; omega, by go_num, by simp, HN⟩, by simp [intOf]; omega⟩
      by_cases k2 : x.toNat = 226
      · obtain rfl : x = 226 := u8_eq k2 (by decide)
        clear u0 a1 hx256 k1
        by_cases h1 : i + 2 < s.size
        · have q2 : (i : Int) + 2 < (s.size : Int) := by omega
          have q3 : (i : Int) + 1 < (s.size : Int) := by omega
          obtain ⟨y, hy⟩ : ∃ y : UInt8, s[i + 1] = y := ⟨_, rfl⟩
          have HY : Hid (s.data.toList[i + 1]? = some y) := Lib.hid (by rw [← hy]; exact Lib.data_getElem? s (i + 1) (by omega))
          obtain ⟨z, hz⟩ : ∃ z : UInt8, s[i + 2] = z := ⟨_, rfl⟩
          have HZ : Hid (s.data.toList[i + 2]? = some z) := Lib.hid (by rw [← hz]; exact Lib.data_getElem? s (i + 2) h1)
          by_cases k2 : y.toNat = 132
          · obtain rfl : y = 132 := u8_eq k2 (by decide)
            by_cases k3 : z.toNat = 170
            · obtain rfl : z = 170 := u8_eq k3 (by decide)
              have HFO : Hid (fol ((226 : UInt8) :: s.data.toList.drop (i + 1)) = (107, 3)) := Lib.hid (fol_c rfl (by rw [head_at]; exact HY.out) (by rw [head_at2]; exact HZ.out))
              go_wp2_with (first | (at_builtin; refine wpList_append_fits _ rfl (.tmp 73) (.tmp 74) 42 rfl w.heap.size 5 i0 1 Tryd.underlying42 HI0.out.1 HI0.out.2.2.1 w.heap.size D.length s.size (D.map cu) (by rfl) (HO.out _) ⟨wr.heap.size, 0, none⟩ 1 1 [.int .u8 107] (by rfl) rfl (World.news_of_block (cs := #[.int .u8 107]) (heap_alloc_new wr _)) (by simp [Value.oneCell']) hdl ?_; intro w2 ho2 hg2; have HN := Lib.hid (HR.out.next HLEN.out HX.out HFO.out _ (by exact ho2) hg2); clear ho2 hg2))
              exact ⟨⟨i + 3, D ++ [107], by have := HN.out.hi; omega, by go_num, by simp, HN⟩, by simp [intOf]; omega⟩
            · have k4 : ¬ (z.toNat : Int) = 170 := by omega
              have HFO : Hid (fol ((226 : UInt8) :: s.data.toList.drop (i + 1)) = (226, 1)) := Lib.hid (fol_d h0.out ⟨fun h => absurd h.1 (by decide), fun h => by have := h.2.2; rw [head_at2, HZ.out] at this; exact k3 (by rw [Option.some.inj this]; rfl)⟩)
              go_wp2_with (first | (at_builtin; refine wpList_append_fits _ rfl (.tmp 78) (.tmp 80) 42 rfl w.heap.size 5 i0 1 Tryd.underlying42 HI0.out.1 HI0.out.2.2.1 w.heap.size D.length s.size (D.map cu) (by rfl) (HO.out _) ⟨wr.heap.size, 0, none⟩ 1 1 [.int .u8 226] (by rfl) rfl (World.news_of_block (cs := #[.int .u8 226]) (heap_alloc_new wr _)) (by simp [Value.oneCell']) hdl ?_; intro w2 ho2 hg2; have HN := Lib.hid (HR.out.next HLEN.out HX.out HFO.out _ (by exact ho2) hg2); clear ho2 hg2))
              exact ⟨⟨i + 1, D ++ [226], by have := HN.out.hi; omega, by go_num, by simp, HN⟩, by simp [intOf]; omega⟩
          · have k4 : ¬ (y.toNat : Int) = 132 := by omega
            have HFO : Hid (fol ((226 : UInt8) :: s.data.toList.drop (i + 1)) = (226, 1)) := Lib.hid (fol_d h0.out ⟨fun h => absurd h.1 (by decide), fun h => by have := h.2.1; rw [head_at, HY.out] at this; exact k2 (by rw [Option.some.inj this]; rfl)⟩)
            go_wp2_with (first | (at_builtin; refine wpList_append_fits _ rfl (.tmp 78) (.tmp 80) 42 rfl w.heap.size 5 i0 1 Tryd.underlying42 HI0.out.1 HI0.out.2.2.1 w.heap.size D.length s.size (D.map cu) (by rfl) (HO.out _) ⟨wr.heap.size, 0, none⟩ 1 1 [.int .u8 226] (by rfl) rfl (World.news_of_block (cs := #[.int .u8 226]) (heap_alloc_new wr _)) (by simp [Value.oneCell']) hdl ?_; intro w2 ho2 hg2; have HN := Lib.hid (HR.out.next HLEN.out HX.out HFO.out _ (by exact ho2) hg2); clear ho2 hg2))
            exact ⟨⟨i + 1, D ++ [226], by have := HN.out.hi; omega, by go_num, by simp, HN⟩, by simp [intOf]; omega⟩
        · have q2 : ¬ (i : Int) + 2 < (s.size : Int) := by omega
          have HFO : Hid (fol ((226 : UInt8) :: s.data.toList.drop (i + 1)) = (226, 1)) := Lib.hid (fol_d h0.out ⟨fun h => absurd h.1 (by decide), fun h => by have := h.2.2; rw [head_at2, List.getElem?_eq_none (by rw [HLEN.out]; omega)] at this; cases this⟩)
          go_wp2_with (first | (at_builtin; refine wpList_append_fits _ rfl (.tmp 78) (.tmp 80) 42 rfl w.heap.size 5 i0 1 Tryd.underlying42 HI0.out.1 HI0.out.2.2.1 w.heap.size D.length s.size (D.map cu) (by rfl) (HO.out _) ⟨wr.heap.size, 0, none⟩ 1 1 [.int .u8 226] (by rfl) rfl (World.news_of_block (cs := #[.int .u8 226]) (heap_alloc_new wr _)) (by simp [Value.oneCell']) hdl ?_; intro w2 ho2 hg2; have HN := Lib.hid (HR.out.next HLEN.out HX.out HFO.out _ (by exact ho2) hg2); clear ho2 hg2))
          exact ⟨⟨i + 1, D ++ [226], by have := HN.out.hi; omega, by go_num, by simp, HN⟩, by simp [intOf]; omega⟩
      · have k3 : ¬ (x.toNat : Int) = 196 := by omega
        have k4 : ¬ (x.toNat : Int) = 226 := by omega
        have HK := Lib.hid (And.intro k1 k2)
        clear k1 k2 hx256
        by_cases k5 : (65 : Int) ≤ x.toNat
        · have k6 := a1 k5
          clear a1 u0
          have HFO : Hid (fol ((x : UInt8) :: s.data.toList.drop (i + 1)) = (x, 1)) := Lib.hid (fol_d h0.out ⟨fun h => HK.out.1 (by rw [h.1]; rfl), fun h => HK.out.2 (by rw [h.1]; rfl)⟩)
          go_wp2_with (first | (at_builtin; refine wpList_append_fits _ rfl (.tmp 78) (.tmp 80) 42 rfl w.heap.size 5 i0 1 Tryd.underlying42 HI0.out.1 HI0.out.2.2.1 w.heap.size D.length s.size (D.map cu) (by rfl) (HO.out _) ⟨wr.heap.size, 0, none⟩ 1 1 [.int .u8 (x.toNat : Int)] (by rfl) rfl (World.news_of_block (cs := #[.int .u8 (x.toNat : Int)]) (heap_alloc_new wr _)) (by simp [Value.oneCell']) hdl ?_; intro w2 ho2 hg2; have HN := Lib.hid (HR.out.next HLEN.out HX.out HFO.out _ (by exact ho2) hg2); clear ho2 hg2))
          exact ⟨⟨i + 1, D ++ [x], by have := HN.out.hi; omega, by go_num, by simp, HN⟩, by simp [intOf]; omega⟩
        · clear a1 u0
          have HFO : Hid (fol ((x : UInt8) :: s.data.toList.drop (i + 1)) = (x, 1)) := Lib.hid (fol_d h0.out ⟨fun h => HK.out.1 (by rw [h.1]; rfl), fun h => HK.out.2 (by rw [h.1]; rfl)⟩)
          go_wp2_with (first | (at_builtin; refine wpList_append_fits _ rfl (.tmp 78) (.tmp 80) 42 rfl w.heap.size 5 i0 1 Tryd.underlying42 HI0.out.1 HI0.out.2.2.1 w.heap.size D.length s.size (D.map cu) (by rfl) (HO.out _) ⟨wr.heap.size, 0, none⟩ 1 1 [.int .u8 (x.toNat : Int)] (by rfl) rfl (World.news_of_block (cs := #[.int .u8 (x.toNat : Int)]) (heap_alloc_new wr _)) (by simp [Value.oneCell']) hdl ?_; intro w2 ho2 hg2; have HN := Lib.hid (HR.out.next HLEN.out HX.out HFO.out _ (by exact ho2) hg2); clear ho2 hg2))
          exact ⟨⟨i + 1, D ++ [x], by have := HN.out.hi; omega, by go_num, by simp, HN⟩, by simp [intOf]; omega⟩
  case rest =>
    clear HF
    obtain ⟨D, rfl, HR⟩ := hcut
    have hcv := run_convert_bytes_back (P := Tryd.prog) wc 42 9 5 ⟨w.heap.size, 0, none⟩ s.size D Tryd.underlying42 Tryd.underlying5 Tryd.underlying9 (own_bytes HR.out.own)
    have HD : Hid (foldB s = ⟨D.toArray⟩) := Lib.hid (by
      have e := HR.out.eq
      rw [List.drop_of_length_le (by rw [HLEN.out]; exact Nat.le_refl _)] at e
      have e2 : folD s.size ([] : List UInt8) = [] := by cases s.size <;> rfl
      rw [e2, List.append_nil] at e
      rw [foldB, HLEN.out, ← e])
    go_wp2_with fail
    go_ret
    exact ⟨by rw [HD.out]; rfl, HR.out.below⟩
end Go.Proofs.YtkphnplmjpjbjabDoor.Sy
