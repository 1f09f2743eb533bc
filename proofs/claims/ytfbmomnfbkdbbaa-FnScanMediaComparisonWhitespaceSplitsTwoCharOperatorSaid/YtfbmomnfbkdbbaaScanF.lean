import Derived.Test.YtfbmomnfbkdbbaaScanE
namespace Go.Proofs.Ytfbmomnfbkdbbaa.Scan
open Go.ChangeShapes Go.WideShapes Go.ChangeAt Go.RowKit Go.Deep
set_option linter.unusedVariables false
set_option maxRecDepth 100000 in
set_option maxHeartbeats 1000000 in
theorem scan_nil (k0 k1 : Int) (w : World) : Calls Try.prog 37 #[.slice none 0 0] w (ScanR 0 k0 k1 w) := by
  go_enter Try.func37, Try.ntmps37
  go_wp2
  go_ret2
  exact ⟨_, _, _, rfl, (World.drewN_zero _).symm, by omega, by omega, fun h => absurd h (by omega), fun h => absurd h (by omega)⟩
theorem scan_all (B g n : Nat) (K S : Nat → Int) (w0 w : World) (h : CR B g n n K S w0 w) (hn : (n : Int) ≤ 16384) : Calls Try.prog 37 #[.slice (some ⟨g, 0, none⟩) n n] w (ScanR n (K 0) (K 1) w) := by
  have h1 := h.1
  clear h
  by_cases n0 : n = 0
  · subst n0; exact scan_n0 _ _ _ 0 0 _
  obtain ⟨c0, c1⟩ := h1 0 (by omega)
  simp only [Nat.zero_mul, Nat.zero_add] at c0 c1
  by_cases n1 : n = 1
  · subst n1
    by_cases e1 : K 0 = 18
    · rw [e1] at c0 ⊢; exact scan_eq_1 g 0 _ _ 0 w c0 c1
    by_cases e2 : K 0 = 21
    · rw [e2] at c0 ⊢; exact scan_lt_1 g 0 _ _ 0 w c0 c1
    by_cases e3 : K 0 = 20
    · rw [e3] at c0 ⊢; exact scan_gt_1 g 0 _ _ 0 w c0 c1
    exact scan_other_1 g _ _ _ 0 w (by simpa using e1) (by simpa using e2) (by simpa using e3) c0 c1
  obtain ⟨c2, c3⟩ := h1 1 (by omega)
  simp only [Nat.one_mul] at c2 c3
  clear h1
  by_cases e1 : K 0 = 18
  · rw [e1] at c0 ⊢
    by_cases n2 : n = 2
    · subst n2; exact scan_eq_2 g 0 _ _ _ w c0 c1 c2 c3
    · exact scan_eq_ge3 n (by omega) hn g 0 _ _ _ w c0 c1 c2 c3
  by_cases e2 : K 0 = 21
  · rw [e2] at c0 ⊢
    by_cases e4 : K 1 = 18
    · rw [e4] at c2 ⊢
      cases hfl : (bits BinOp.or IntKind.u8 (bits BinOp.and IntKind.u8 (S 0) 2) (bits BinOp.and IntKind.u8 (S 1) 1) == 0) with
      | true =>
        by_cases n2 : n = 2
        · subst n2; exact scan_lt_yes_2 g 0 0 _ _ w c0 c1 c2 c3 hfl
        · exact scan_lt_yes_ge3 n (by omega) hn g 0 0 _ _ w c0 c1 c2 c3 hfl
      | false =>
        by_cases n2 : n = 2
        · subst n2; refine (scan_lt_split_2 g 0 0 _ _ w c0 c1 c2 c3 hfl).mono ?_
          rintro e w' ⟨nq, rfl, rfl⟩; exact ⟨nq, _, _, rfl, rfl, by omega, by omega, fun h => absurd h (by omega), fun h => absurd h (by omega)⟩
        · refine (scan_lt_split_ge3 n (by omega) hn g 0 0 _ _ w c0 c1 c2 c3 hfl).mono ?_
          rintro e w' ⟨nq, rfl, rfl⟩; exact ⟨nq, _, _, rfl, rfl, by omega, by omega, fun h => absurd h (by omega), fun h => absurd h (by omega)⟩
    · by_cases n2 : n = 2
      · subst n2; exact scan_lt_ne_2 g 0 _ _ _ w (by simpa using e4) c0 c1 c2 c3
      · exact scan_lt_ne_ge3 n (by omega) hn g 0 _ _ _ w (by simpa using e4) c0 c1 c2 c3
  by_cases e3 : K 0 = 20
  · rw [e3] at c0 ⊢
    by_cases e4 : K 1 = 18
    · rw [e4] at c2 ⊢
      cases hfl : (bits BinOp.or IntKind.u8 (bits BinOp.and IntKind.u8 (S 0) 2) (bits BinOp.and IntKind.u8 (S 1) 1) == 0) with
      | true =>
        by_cases n2 : n = 2
        · subst n2; exact scan_gt_yes_2 g 0 0 _ _ w c0 c1 c2 c3 hfl
        · exact scan_gt_yes_ge3 n (by omega) hn g 0 0 _ _ w c0 c1 c2 c3 hfl
      | false =>
        by_cases n2 : n = 2
        · subst n2; refine (scan_gt_split_2 g 0 0 _ _ w c0 c1 c2 c3 hfl).mono ?_
          rintro e w' ⟨nq, rfl, rfl⟩; exact ⟨nq, _, _, rfl, rfl, by omega, by omega, fun h => absurd h (by omega), fun h => absurd h (by omega)⟩
        · refine (scan_gt_split_ge3 n (by omega) hn g 0 0 _ _ w c0 c1 c2 c3 hfl).mono ?_
          rintro e w' ⟨nq, rfl, rfl⟩; exact ⟨nq, _, _, rfl, rfl, by omega, by omega, fun h => absurd h (by omega), fun h => absurd h (by omega)⟩
    · by_cases n2 : n = 2
      · subst n2; exact scan_gt_ne_2 g 0 _ _ _ w (by simpa using e4) c0 c1 c2 c3
      · exact scan_gt_ne_ge3 n (by omega) hn g 0 _ _ _ w (by simpa using e4) c0 c1 c2 c3
  by_cases n2 : n = 2
  · subst n2; exact scan_other_2 g _ _ _ _ w (by simpa using e1) (by simpa using e2) (by simpa using e3) c0 c1 c2 c3
  · exact scan_other_ge3 n (by omega) hn g _ _ _ _ w (by simpa using e1) (by simpa using e2) (by simpa using e3) c0 c1 c2 c3
theorem zz_nil (k0 k1 : Int) (w : World) : Calls Try.prog 25 #[.slice none 0 0] w (ScanR 0 k0 k1 w) := by
  go_enter Try.func25, Try.ntmps25
  go_wp2_with ((go_at_call 37; refine (scan_nil k0 k1 _).mono ?_; rintro e w' ⟨nq, c, r, rfl, rfl, x1, x2, x3, x4⟩; have X3 := Lib.hid x3; have X4 := Lib.hid x4; clear x3 x4))
  go_ret2
  exact ⟨nq, c, r, rfl, rfl, x1, x2, X3.out, X4.out⟩
theorem zz_any (B g n : Nat) (K S : Nat → Int) (w0 w : World) (h : CR B g n n K S w0 w) (hn : (n : Int) ≤ 16384) : Calls Try.prog 25 #[.slice (some ⟨g, 0, none⟩) n n] w (ScanR n (K 0) (K 1) w) := by
  have H := Lib.hid h
  clear h
  go_enter Try.func25, Try.ntmps25
  go_wp2_with ((go_at_call 37; refine (scan_all B g n K S w0 _ H.out hn).mono ?_; rintro e w' ⟨nq, c, r, rfl, rfl, x1, x2, x3, x4⟩; have X3 := Lib.hid x3; have X4 := Lib.hid x4; clear x3 x4))
  go_ret2
  exact ⟨nq, c, r, rfl, rfl, x1, x2, X3.out, X4.out⟩
theorem zz_lt (n g : Nat) (s0 s1 : Int) (w : World) (hn : 2 ≤ n) (hn2 : (n : Int) ≤ 16384) (c0 : w.cell? ⟨g, 5, none⟩ = some (.int .u8 21)) (c1 : w.cell? ⟨g, 6, none⟩ = some (.int .u8 s0)) (c2 : w.cell? ⟨g, 12, none⟩ = some (.int .u8 18)) (c3 : w.cell? ⟨g, 13, none⟩ = some (.int .u8 s1))
   (hfl : (bits BinOp.or IntKind.u8 (bits BinOp.and IntKind.u8 s0 2) (bits BinOp.and IntKind.u8 s1 1) == 0) = false) : Calls Try.prog 25 #[.slice (some ⟨g, 0, none⟩) n n] w (ScanS 2 g n w) := by
  have hc : Calls Try.prog 37 #[.slice (some ⟨g, 0, none⟩) n n] w (ScanS 2 g n w) := by
    by_cases n2 : n = 2
    · subst n2; exact scan_lt_split_2 g 0 0 _ _ w c0 c1 c2 c3 hfl
    · exact scan_lt_split_ge3 n (by omega) hn2 g 0 0 _ _ w c0 c1 c2 c3 hfl
  have HC := Lib.hid hc
  clear hc c0 c1 c2 c3 hfl
  go_enter Try.func25, Try.ntmps25
  go_wp2_with ((go_at_call 37; refine HC.out.mono ?_; rintro e w' ⟨nq, rfl, rfl⟩))
  go_ret2
  exact ⟨nq, rfl, rfl⟩
theorem zz_gt (n g : Nat) (s0 s1 : Int) (w : World) (hn : 2 ≤ n) (hn2 : (n : Int) ≤ 16384) (c0 : w.cell? ⟨g, 5, none⟩ = some (.int .u8 20)) (c1 : w.cell? ⟨g, 6, none⟩ = some (.int .u8 s0)) (c2 : w.cell? ⟨g, 12, none⟩ = some (.int .u8 18)) (c3 : w.cell? ⟨g, 13, none⟩ = some (.int .u8 s1))
   (hfl : (bits BinOp.or IntKind.u8 (bits BinOp.and IntKind.u8 s0 2) (bits BinOp.and IntKind.u8 s1 1) == 0) = false) : Calls Try.prog 25 #[.slice (some ⟨g, 0, none⟩) n n] w (ScanS 4 g n w) := by
  have hc : Calls Try.prog 37 #[.slice (some ⟨g, 0, none⟩) n n] w (ScanS 4 g n w) := by
    by_cases n2 : n = 2
    · subst n2; exact scan_gt_split_2 g 0 0 _ _ w c0 c1 c2 c3 hfl
    · exact scan_gt_split_ge3 n (by omega) hn2 g 0 0 _ _ w c0 c1 c2 c3 hfl
  have HC := Lib.hid hc
  clear hc c0 c1 c2 c3 hfl
  go_enter Try.func25, Try.ntmps25
  go_wp2_with ((go_at_call 37; refine HC.out.mono ?_; rintro e w' ⟨nq, rfl, rfl⟩))
  go_ret2
  exact ⟨nq, rfl, rfl⟩
/- the whitespace marks -/
theorem or_two : ∀ s : Fin 256, bits BinOp.and IntKind.u8 (bits BinOp.or IntKind.u8 (s.val : Int) 2) 2 = 2 := by decide +kernel
theorem or_one : ∀ s : Fin 256, bits BinOp.and IntKind.u8 (bits BinOp.or IntKind.u8 (s.val : Int) 1) 1 = 1 := by decide +kernel
theorem and_one : ∀ s : Fin 256, bits BinOp.and IntKind.u8 (s.val : Int) 1 = 0 ∨ bits BinOp.and IntKind.u8 (s.val : Int) 1 = 1 := by decide +kernel
theorem and_two : ∀ s : Fin 256, bits BinOp.and IntKind.u8 (s.val : Int) 2 = 0 ∨ bits BinOp.and IntKind.u8 (s.val : Int) 2 = 2 := by decide +kernel
theorem as_fin (s : Int) (h0 : 0 ≤ s) (h1 : s ≤ 255) : ∃ f : Fin 256, s = (f.val : Int) := ⟨⟨s.toNat, by omega⟩, by simp; omega⟩
theorem fl_after (s0 s1 : Int) (h0 : 0 ≤ s0) (h1 : s0 ≤ 255) (h2 : 0 ≤ s1) (h3 : s1 ≤ 255) : (bits BinOp.or IntKind.u8 (bits BinOp.and IntKind.u8 (bits BinOp.or IntKind.u8 s0 2) 2) (bits BinOp.and IntKind.u8 s1 1) == 0) = false := by
  obtain ⟨a, rfl⟩ := as_fin s0 h0 h1
  obtain ⟨b, rfl⟩ := as_fin s1 h2 h3
  rw [or_two]
  rcases and_one b with h | h <;> rw [h] <;> decide
theorem fl_before (s0 s1 : Int) (h0 : 0 ≤ s0) (h1 : s0 ≤ 255) (h2 : 0 ≤ s1) (h3 : s1 ≤ 255) : (bits BinOp.or IntKind.u8 (bits BinOp.and IntKind.u8 s0 2) (bits BinOp.and IntKind.u8 (bits BinOp.or IntKind.u8 s1 1) 1) == 0) = false := by
  obtain ⟨a, rfl⟩ := as_fin s0 h0 h1
  obtain ⟨b, rfl⟩ := as_fin s1 h2 h3
  rw [or_one]
  rcases and_two a with h | h <;> rw [h] <;> decide
end Go.Proofs.Ytfbmomnfbkdbbaa.Scan
