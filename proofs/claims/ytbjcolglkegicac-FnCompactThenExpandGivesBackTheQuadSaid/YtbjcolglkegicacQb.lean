/-
  Four tokens without children in one block; compactTokenQuad.
-/
import Derived.Test.YtbjcolglkegicacEq
import Derived.StillTailTactics
import Derived.Laws.Rows
namespace Go.Proofs.Ytbjcolglkegicac.Quad
open Go.ChangeShapes Go.WideShapes Go.ChangeAt Go.RowKit
set_option linter.unusedVariables false
theorem later {w1 w2 : World} (hb : Below w1.heap.size w1 w2) {p : Addr} {v : Value} (h : w1.cell? p = some v) : w2.cell? p = some v := (hb.cell (World.block_lt_of_cell? w1 p h)).trans h
theorem set_same {w : World} {g o : Nat} {v : Value} (h : (w.cell? ⟨g, o, none⟩).isSome = true) : (w.setCell ⟨g, o, none⟩ v).cell? ⟨g, o, none⟩ = some v := World.cell?_setCell_same' w _ v h
theorem set_far {w : World} {g o o' : Nat} {v x : Value} (hne : o' ≠ o) (h : w.cell? ⟨g, o, none⟩ = some v) : (w.setCell ⟨g, o', none⟩ x).cell? ⟨g, o, none⟩ = some v := by
  rw [World.cell?_setCell_other]
  · exact h
  · intro e; injection e with _ e2; exact hne e2
theorem below_drewN {B : Nat} {a w : World} (h : Below B a w) (n : Nat) : Below B a (w.drewN n) := ⟨h.os, h.tape, h.output, h.size, h.block⟩
/-- block g: four tokens without children; their whitespace is some u8 -/
def QB (B g : Nat) (K P L : Nat → Int) (T : Nat → ByteArray) (w0 w : World) : Prop :=
  (∀ j, j < 4 → w.cell? ⟨g, j * 7, none⟩ = some (.pointer none) ∧ w.cell? ⟨g, j * 7 + 1, none⟩ = some (.string (T j)) ∧ w.cell? ⟨g, j * 7 + 2, none⟩ = some (.int .i32 (L j)) ∧ w.cell? ⟨g, j * 7 + 3, none⟩ = some (.int .u32 (P j)) ∧ w.cell? ⟨g, j * 7 + 4, none⟩ = some (.int .u16 0) ∧ w.cell? ⟨g, j * 7 + 5, none⟩ = some (.int .u8 (K j)) ∧ ∃ s, w.cell? ⟨g, j * 7 + 6, none⟩ = some (.int .u8 s)) ∧
  (∀ o, w.frozen? ⟨g, o, none⟩ = false) ∧ B ≤ g ∧ g < w.heap.size ∧ Below B w0 w
section
variable {B g : Nat} {K P L : Nat → Int} {T : Nat → ByteArray} {w0 w w' : World}
theorem QB.keep (h : QB B g K P L T w0 w) (hb : Below w.heap.size w w') : QB B g K P L T w0 w' := by
  obtain ⟨h0, h3, h4, h5, h6⟩ := h
  refine ⟨fun j hj => ?_, fun o => ?_, h4, Nat.lt_of_lt_of_le h5 hb.size, h6.trans (hb.mono (Nat.le_trans h4 (Nat.le_of_lt h5)))⟩
  · obtain ⟨a, b, c, d, e, f, s, q⟩ := h0 j hj
    exact ⟨later hb a, later hb b, later hb c, later hb d, later hb e, later hb f, s, later hb q⟩
  · rw [hb.frozen (p := ⟨g, o, none⟩) h5]; exact h3 o
theorem QB.drewN (h : QB B g K P L T w0 w) (k : Nat) : QB B g K P L T w0 (w.drewN k) := by
  obtain ⟨h0, h3, h4, h5, h6⟩ := h
  exact ⟨h0, h3, h4, h5, below_drewN h6 k⟩
theorem QB.ws (h : QB B g K P L T w0 w) {i : Nat} (hin : i < 4) (x : Int) : QB B g K P L T w0 (w.setCell ⟨g, i * 7 + 6, none⟩ (.int .u8 x)) := by
  obtain ⟨h0, h3, h4, h5, h6⟩ := h
  refine ⟨fun j hj => ?_, fun o => by simp only [World.frozen?_setCell]; exact h3 o, h4, by simpa [World.setCell] using h5, h6.setCell h4 _⟩
  obtain ⟨a, b, c, d, e, f, s, q⟩ := h0 j hj
  refine ⟨set_far (by omega) a, set_far (by omega) b, set_far (by omega) c, set_far (by omega) d, set_far (by omega) e, set_far (by omega) f, ?_⟩
  by_cases hji : j = i
  · subst hji; exact ⟨x, set_same (by rw [q]; rfl)⟩
  · exact ⟨s, set_far (by omega) q⟩
theorem QB.at0 (h : QB B g K P L T w0 w) : w.cell? ⟨g, 0, none⟩ = some (.pointer none) ∧ w.cell? ⟨g, 1, none⟩ = some (.string (T 0)) ∧ w.cell? ⟨g, 2, none⟩ = some (.int .i32 (L 0)) ∧ w.cell? ⟨g, 3, none⟩ = some (.int .u32 (P 0)) ∧ w.cell? ⟨g, 4, none⟩ = some (.int .u16 0) ∧ w.cell? ⟨g, 5, none⟩ = some (.int .u8 (K 0)) ∧ ∃ s, w.cell? ⟨g, 6, none⟩ = some (.int .u8 s) := h.1 0 (by omega)
theorem QB.at1 (h : QB B g K P L T w0 w) : w.cell? ⟨g, 7, none⟩ = some (.pointer none) ∧ w.cell? ⟨g, 8, none⟩ = some (.string (T 1)) ∧ w.cell? ⟨g, 9, none⟩ = some (.int .i32 (L 1)) ∧ w.cell? ⟨g, 10, none⟩ = some (.int .u32 (P 1)) ∧ w.cell? ⟨g, 11, none⟩ = some (.int .u16 0) ∧ w.cell? ⟨g, 12, none⟩ = some (.int .u8 (K 1)) ∧ ∃ s, w.cell? ⟨g, 13, none⟩ = some (.int .u8 s) := h.1 1 (by omega)
theorem QB.at2 (h : QB B g K P L T w0 w) : w.cell? ⟨g, 14, none⟩ = some (.pointer none) ∧ w.cell? ⟨g, 15, none⟩ = some (.string (T 2)) ∧ w.cell? ⟨g, 16, none⟩ = some (.int .i32 (L 2)) ∧ w.cell? ⟨g, 17, none⟩ = some (.int .u32 (P 2)) ∧ w.cell? ⟨g, 18, none⟩ = some (.int .u16 0) ∧ w.cell? ⟨g, 19, none⟩ = some (.int .u8 (K 2)) ∧ ∃ s, w.cell? ⟨g, 20, none⟩ = some (.int .u8 s) := h.1 2 (by omega)
theorem QB.at3 (h : QB B g K P L T w0 w) : w.cell? ⟨g, 21, none⟩ = some (.pointer none) ∧ w.cell? ⟨g, 22, none⟩ = some (.string (T 3)) ∧ w.cell? ⟨g, 23, none⟩ = some (.int .i32 (L 3)) ∧ w.cell? ⟨g, 24, none⟩ = some (.int .u32 (P 3)) ∧ w.cell? ⟨g, 25, none⟩ = some (.int .u16 0) ∧ w.cell? ⟨g, 26, none⟩ = some (.int .u8 (K 3)) ∧ ∃ s, w.cell? ⟨g, 27, none⟩ = some (.int .u8 s) := h.1 3 (by omega)
end
abbrev tkf (K P L S : Nat → Int) (T : Nat → ByteArray) (j : Nat) : Value := .agg #[.pointer none, .string (T j), .int .i32 (L j), .int .u32 (P j), .int .u16 0, .int .u8 (K j), .int .u8 (S j)]
theorem QB.made (w0 w : World) (B : Nat) (K P L S : Nat → Int) (T : Nat → ByteArray) (t : TypeId) (hb : Below B w0 w) (hB : B ≤ w.heap.size) :
    QB B w.heap.size K P L T w0 (w.alloc (.cells #[.pointer none, .string (T 0), .int .i32 (L 0), .int .u32 (P 0), .int .u16 0, .int .u8 (K 0), .int .u8 (S 0), .pointer none, .string (T 1), .int .i32 (L 1), .int .u32 (P 1), .int .u16 0, .int .u8 (K 1), .int .u8 (S 1), .pointer none, .string (T 2), .int .i32 (L 2), .int .u32 (P 2), .int .u16 0, .int .u8 (K 2), .int .u8 (S 2), .pointer none, .string (T 3), .int .i32 (L 3), .int .u32 (P 3), .int .u16 0, .int .u8 (K 3), .int .u8 (S 3)] t)) := by
  refine ⟨fun j hj => ?_, fun o => by simp, hB, by simp, hb.alloc hB _⟩
  have : j = 0 ∨ j = 1 ∨ j = 2 ∨ j = 3 := by omega
  rcases this with rfl | rfl | rfl | rfl <;> simp
def cN (K P : Nat → Int) (T : Nat → ByteArray) : Nat :=
  if eqT (T 3) (P 3) (K 3) (T 1) (P 1) (K 1) then (if eqT (T 2) (P 2) (K 2) (T 0) (P 0) (K 0) then (if eqT (T 1) (P 1) (K 1) (T 0) (P 0) (K 0) then 1 else 2) else 3) else 4
set_option maxRecDepth 100000 in
set_option maxHeartbeats 2000000 in
theorem compact_any (K P L S : Nat → Int) (T : Nat → ByteArray) (mf : Bool) (w : World) :
    Calls Try.prog 11 #[tkf K P L S T 0, tkf K P L S T 1, tkf K P L S T 2, tkf K P L S T 3, .bool mf] w fun e w' => e = .returned (.slice (some ⟨w.heap.size + 4, 0, none⟩) (cN K P T) 4) ∧ QB w.heap.size (w.heap.size + 4) K P L T w w' := by
  obtain ⟨n, hn⟩ : ∃ n, n = cN K P T := ⟨_, rfl⟩
  rw [← hn]
  unfold cN at hn
  have HN := Lib.hid hn
  clear hn
  unfold tkf
  go_enter Try.func11, Try.ntmps11
  go_wp2_with fail
  have HQ0 := Lib.hid (QB.made w ((((w.alloc (.cells #[.pointer none, .string (T 0), .int .i32 (L 0), .int .u32 (P 0), .int .u16 0, .int .u8 (K 0), .int .u8 (S 0)] 35)).alloc (.cells #[.pointer none, .string (T 1), .int .i32 (L 1), .int .u32 (P 1), .int .u16 0, .int .u8 (K 1), .int .u8 (S 1)] 35)).alloc (.cells #[.pointer none, .string (T 2), .int .i32 (L 2), .int .u32 (P 2), .int .u16 0, .int .u8 (K 2), .int .u8 (S 2)] 35)).alloc (.cells #[.pointer none, .string (T 3), .int .i32 (L 3), .int .u32 (P 3), .int .u16 0, .int .u8 (K 3), .int .u8 (S 3)] 35)) w.heap.size K P L S T 35 ((((((Below.refl _ _).alloc (Nat.le_refl _) _).alloc (by simp) _).alloc (by simp; omega) _).alloc (by simp; omega) _)) (by simp; omega))
  rw [show ((((w.alloc _).alloc _).alloc _).alloc _).heap.size = w.heap.size + 4 by simp] at HQ0
  generalize (World.alloc _ _ : World) = w1 at HQ0 ⊢
  obtain ⟨a0, a1, a2, a3, a4, a5, sa, a6⟩ := HQ0.out.at3
  obtain ⟨b0, b1, b2, b3, b4, b5, sb, b6⟩ := HQ0.out.at1
  go_still_tail 6, (by kernel_rfl)
  change wpList _ _ _ _ _ _
  go_wp2_with fail
  refine (eqt_any _ _ _ _ _ _ _ _ _ _ _ _ _).mono ?_
  rintro e w2 ⟨rfl, hb⟩
  have HQ1 := Lib.hid ((HQ0.out.drewN 1).keep hb)
  clear hb a0 a1 a2 a3 a4 a5 a6 b0 b1 b2 b3 b4 b5 b6 HQ0
  generalize eqT (T 3) (P 3) (K 3) (T 1) (P 1) (K 1) = c1 at HN ⊢
  cases c1
  · go_wp2_with fail
    obtain rfl : n = 4 := HN.out
    clear HN
    go_loopw [48] (fun i wr => ∃ k : Nat, k ≤ 4 ∧ i = .int .i64 k ∧ Hid (QB w.heap.size (w.heap.size + 4) K P L T w wr)) (fun i _ => 4 - (intOf i).toNat)
    case atStart => exact ⟨0, Nat.zero_le _, rfl, HQ1⟩
    case round =>
      clear HQ1
      obtain ⟨k, hk, rfl, HT⟩ := hrel
      by_cases hlt : k < 4
      · obtain ⟨d0, d1, d2, d3, d4, d5, s, d6⟩ := HT.out.1 k (by omega)
        have hf := HT.out.2.1
        have HP := Lib.hid (HT.out.ws (i := k) (by omega))
        have q0 : (0 : Int) ≤ k := by omega
        have q1 : (k : Int) < 4 := by omega
        clear d0 d1 d2 d3 d4 d5
        cases mf
        all_goals go_wp2
        all_goals
          refine ⟨?_, by simp [intOf]; omega⟩
          first | exact ⟨k + 1, by omega, by go_num, HP.out _⟩ | ((repeat apply Exists.intro); exact ⟨⟨k + 1, by omega, by go_num, HP.out _⟩, rfl⟩)
      · obtain rfl : k = 4 := by omega
        go_wp2
        go_ret
        exact ⟨rfl, HT.out⟩
  · go_wp2_with fail
    obtain ⟨a0, a1, a2, a3, a4, a5, sa, a6⟩ := HQ1.out.at2
    obtain ⟨b0, b1, b2, b3, b4, b5, sb, b6⟩ := HQ1.out.at0
    go_still_tail 6, (by kernel_rfl)
    change wpList _ _ _ _ _ _
    go_wp2_with fail
    refine (eqt_any _ _ _ _ _ _ _ _ _ _ _ _ _).mono ?_
    rintro e w3 ⟨rfl, hb⟩
    have HQ2 := Lib.hid ((HQ1.out.drewN 1).keep hb)
    clear hb a0 a1 a2 a3 a4 a5 a6 b0 b1 b2 b3 b4 b5 b6 HQ1
    generalize eqT (T 2) (P 2) (K 2) (T 0) (P 0) (K 0) = c2 at HN ⊢
    cases c2
    · go_wp2_with fail
      obtain rfl : n = 3 := HN.out
      clear HN
      go_loopw [48] (fun i wr => ∃ k : Nat, k ≤ 3 ∧ i = .int .i64 k ∧ Hid (QB w.heap.size (w.heap.size + 4) K P L T w wr)) (fun i _ => 3 - (intOf i).toNat)
      case atStart => exact ⟨0, Nat.zero_le _, rfl, HQ2⟩
      case round =>
        clear HQ2
        obtain ⟨k, hk, rfl, HT⟩ := hrel
        by_cases hlt : k < 3
        · obtain ⟨d0, d1, d2, d3, d4, d5, s, d6⟩ := HT.out.1 k (by omega)
          have hf := HT.out.2.1
          have HP := Lib.hid (HT.out.ws (i := k) (by omega))
          have q0 : (0 : Int) ≤ k := by omega
          have q1 : (k : Int) < 3 := by omega
          clear d0 d1 d2 d3 d4 d5
          cases mf
          all_goals go_wp2
          all_goals
            refine ⟨?_, by simp [intOf]; omega⟩
            first | exact ⟨k + 1, by omega, by go_num, HP.out _⟩ | ((repeat apply Exists.intro); exact ⟨⟨k + 1, by omega, by go_num, HP.out _⟩, rfl⟩)
        · obtain rfl : k = 3 := by omega
          go_wp2
          go_ret
          exact ⟨rfl, HT.out⟩
    · go_wp2_with fail
      obtain ⟨a0, a1, a2, a3, a4, a5, sa, a6⟩ := HQ2.out.at1
      obtain ⟨b0, b1, b2, b3, b4, b5, sb, b6⟩ := HQ2.out.at0
      go_still_tail 6, (by kernel_rfl)
      change wpList _ _ _ _ _ _
      go_wp2_with fail
      refine (eqt_any _ _ _ _ _ _ _ _ _ _ _ _ _).mono ?_
      rintro e w4 ⟨rfl, hb⟩
      have HQ3 := Lib.hid ((HQ2.out.drewN 1).keep hb)
      clear hb a0 a1 a2 a3 a4 a5 a6 b0 b1 b2 b3 b4 b5 b6 HQ2
      generalize eqT (T 1) (P 1) (K 1) (T 0) (P 0) (K 0) = c3 at HN ⊢
      cases c3
      · go_wp2_with fail
        obtain rfl : n = 2 := HN.out
        clear HN
        go_loopw [48] (fun i wr => ∃ k : Nat, k ≤ 2 ∧ i = .int .i64 k ∧ Hid (QB w.heap.size (w.heap.size + 4) K P L T w wr)) (fun i _ => 2 - (intOf i).toNat)
        case atStart => exact ⟨0, Nat.zero_le _, rfl, HQ3⟩
        case round =>
          clear HQ3
          obtain ⟨k, hk, rfl, HT⟩ := hrel
          by_cases hlt : k < 2
          · obtain ⟨d0, d1, d2, d3, d4, d5, s, d6⟩ := HT.out.1 k (by omega)
            have hf := HT.out.2.1
            have HP := Lib.hid (HT.out.ws (i := k) (by omega))
            have q0 : (0 : Int) ≤ k := by omega
            have q1 : (k : Int) < 2 := by omega
            clear d0 d1 d2 d3 d4 d5
            cases mf
            all_goals go_wp2
            all_goals
              refine ⟨?_, by simp [intOf]; omega⟩
              first | exact ⟨k + 1, by omega, by go_num, HP.out _⟩ | ((repeat apply Exists.intro); exact ⟨⟨k + 1, by omega, by go_num, HP.out _⟩, rfl⟩)
          · obtain rfl : k = 2 := by omega
            go_wp2
            go_ret
            exact ⟨rfl, HT.out⟩
      · go_wp2_with fail
        obtain rfl : n = 1 := HN.out
        clear HN
        go_loopw [48] (fun i wr => ∃ k : Nat, k ≤ 1 ∧ i = .int .i64 k ∧ Hid (QB w.heap.size (w.heap.size + 4) K P L T w wr)) (fun i _ => 1 - (intOf i).toNat)
        case atStart => exact ⟨0, Nat.zero_le _, rfl, HQ3⟩
        case round =>
          clear HQ3
          obtain ⟨k, hk, rfl, HT⟩ := hrel
          by_cases hlt : k < 1
          · obtain ⟨d0, d1, d2, d3, d4, d5, s, d6⟩ := HT.out.1 k (by omega)
            have hf := HT.out.2.1
            have HP := Lib.hid (HT.out.ws (i := k) (by omega))
            have q0 : (0 : Int) ≤ k := by omega
            have q1 : (k : Int) < 1 := by omega
            clear d0 d1 d2 d3 d4 d5
            cases mf
            all_goals go_wp2
            all_goals
              refine ⟨?_, by simp [intOf]; omega⟩
              first | exact ⟨k + 1, by omega, by go_num, HP.out _⟩ | ((repeat apply Exists.intro); exact ⟨⟨k + 1, by omega, by go_num, HP.out _⟩, rfl⟩)
          · obtain rfl : k = 1 := by omega
            go_wp2
            go_ret
            exact ⟨rfl, HT.out⟩
end Go.Proofs.Ytbjcolglkegicac.Quad
