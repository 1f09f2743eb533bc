import Derived.Test.YtoaanhipdjjeiaaPar
namespace Go.Proofs.Ytoaanhipdjjeiaa.Scan
open Go.ChangeShapes Go.WideShapes Go.ChangeAt Go.RowKit Go.Deep
set_option linter.unusedVariables false
section
variable {B g n : Nat} {K S L : Nat → Int} {T : Nat → ByteArray} {w0 w : World}
set_option maxHeartbeats 1000000 in
theorem zzp_any (A : Option Addr) (hn : (n : Int) ≤ 16384) (hA : 0 < n → A = some ⟨g, 0, none⟩) (h : TB B g n 0 K S L T w0 w) :
    Calls Try.prog 7 #[.slice A n n] w (ParP B g n K S L T w0) := by
  have H := Lib.hid (par_any A hn hA h)
  clear h hA
  go_enter Try.func7, Try.ntmps7
  go_wp2_with fail
  refine H.out.mono ?_
  rintro e w1 (⟨rfl, h1⟩ | ⟨q, rfl, h1⟩)
  · have H1 := Lib.hid h1
    clear h1
    go_wp2
    go_ret2
    exact .inl ⟨rfl, H1.out⟩
  · have H1 := Lib.hid h1
    clear h1
    go_wp2
    go_ret2
    exact .inr ⟨q, rfl, H1.out⟩
end
theorem wd_0 (w : World) : Calls Try.prog 11 #[.int .u8 0] w fun e w' => e = .returned (.int .i64 0) ∧ w = w' := by
  have h := width_any 0 w (by decide) (by decide)
  rw [show ((widthN 0 : Nat) : Int) = 0 from rfl] at h
  exact h
theorem kd_0 (w : World) : Calls Try.prog 13 #[.int .u8 0] w fun e w' => e = .returned (.int .u8 0) ∧ w' = w := by
  have h := kind_any 0 w (by decide) (by decide)
  rw [show kindI 0 = 0 from rfl] at h
  exact h.mono fun _ _ ⟨a, b⟩ => ⟨a, b.symm⟩
theorem wd_1 (w : World) : Calls Try.prog 11 #[.int .u8 1] w fun e w' => e = .returned (.int .i64 1) ∧ w = w' := by
  have h := width_any 1 w (by decide) (by decide)
  rw [show ((widthN 1 : Nat) : Int) = 1 from rfl] at h
  exact h
theorem kd_1 (w : World) : Calls Try.prog 13 #[.int .u8 1] w fun e w' => e = .returned (.int .u8 18) ∧ w' = w := by
  have h := kind_any 1 w (by decide) (by decide)
  rw [show kindI 1 = 18 from rfl] at h
  exact h.mono fun _ _ ⟨a, b⟩ => ⟨a, b.symm⟩
theorem wd_2 (w : World) : Calls Try.prog 11 #[.int .u8 2] w fun e w' => e = .returned (.int .i64 1) ∧ w = w' := by
  have h := width_any 2 w (by decide) (by decide)
  rw [show ((widthN 2 : Nat) : Int) = 1 from rfl] at h
  exact h
theorem kd_2 (w : World) : Calls Try.prog 13 #[.int .u8 2] w fun e w' => e = .returned (.int .u8 21) ∧ w' = w := by
  have h := kind_any 2 w (by decide) (by decide)
  rw [show kindI 2 = 21 from rfl] at h
  exact h.mono fun _ _ ⟨a, b⟩ => ⟨a, b.symm⟩
theorem wd_3 (w : World) : Calls Try.prog 11 #[.int .u8 3] w fun e w' => e = .returned (.int .i64 2) ∧ w = w' := by
  have h := width_any 3 w (by decide) (by decide)
  rw [show ((widthN 3 : Nat) : Int) = 2 from rfl] at h
  exact h
theorem kd_3 (w : World) : Calls Try.prog 13 #[.int .u8 3] w fun e w' => e = .returned (.int .u8 21) ∧ w' = w := by
  have h := kind_any 3 w (by decide) (by decide)
  rw [show kindI 3 = 21 from rfl] at h
  exact h.mono fun _ _ ⟨a, b⟩ => ⟨a, b.symm⟩
theorem wd_4 (w : World) : Calls Try.prog 11 #[.int .u8 4] w fun e w' => e = .returned (.int .i64 1) ∧ w = w' := by
  have h := width_any 4 w (by decide) (by decide)
  rw [show ((widthN 4 : Nat) : Int) = 1 from rfl] at h
  exact h
theorem kd_4 (w : World) : Calls Try.prog 13 #[.int .u8 4] w fun e w' => e = .returned (.int .u8 20) ∧ w' = w := by
  have h := kind_any 4 w (by decide) (by decide)
  rw [show kindI 4 = 20 from rfl] at h
  exact h.mono fun _ _ ⟨a, b⟩ => ⟨a, b.symm⟩
theorem wd_5 (w : World) : Calls Try.prog 11 #[.int .u8 5] w fun e w' => e = .returned (.int .i64 2) ∧ w = w' := by
  have h := width_any 5 w (by decide) (by decide)
  rw [show ((widthN 5 : Nat) : Int) = 2 from rfl] at h
  exact h
theorem kd_5 (w : World) : Calls Try.prog 13 #[.int .u8 5] w fun e w' => e = .returned (.int .u8 20) ∧ w' = w := by
  have h := kind_any 5 w (by decide) (by decide)
  rw [show kindI 5 = 20 from rfl] at h
  exact h.mono fun _ _ ⟨a, b⟩ => ⟨a, b.symm⟩
section
variable {n : Nat} {K S L : Nat → Int} {T : Nat → ByteArray} {w : World}
set_option maxRecDepth 100000 in
set_option maxHeartbeats 1000000 in
theorem op_zero (a : Option Addr) (cap : Nat) (p : Nat) : Calls Try.prog 10 #[.slice a n cap, .int .i64 (p : Int), .int .u8 0] w fun e w' => e = .returned (.bool true) ∧ w = w' := by
  go_enter Try.func10, Try.ntmps10
  go_wp2_with (go_at_call 11; refine (wd_0 _).mono ?_; rintro e w' ⟨rfl, rfl⟩)
  go_ret
  exact ⟨rfl, rfl⟩
set_option maxRecDepth 100000 in
set_option maxHeartbeats 1000000 in
theorem op_1 (ab ao cap p : Nat) (s0 s1 : Int) (hn : (n : Int) ≤ 16384) (hp : p + 1 ≤ n) (c0 : w.cell? ⟨ab, ao + p * 4, none⟩ = some (.int .u8 18)) : Calls Try.prog 10 #[.slice (some ⟨ab, ao, none⟩) n cap, .int .i64 (p : Int), .int .u8 1] w fun e w' => e = .returned (.bool true) ∧ ∃ nq, w' = w.drewN nq := by
  have q0 : (0 : Int) ≤ p := by omega
  have q1 : (p : Int) < n := by omega
  have q2 : (p : Int) + 1 ≤ n := by omega
  go_enter Try.func10, Try.ntmps10
  go_wp2_with (go_at_call 11; refine (wd_1 _).mono ?_; rintro e w' ⟨rfl, rfl⟩)
  go_quiet ((go_at_call 13; exact Calls.quiet_of_same (kd_1 _)))
  go_wp2
  go_ret
  exact ⟨rfl, _, rfl⟩
set_option maxRecDepth 100000 in
set_option maxHeartbeats 1000000 in
theorem op_2 (ab ao cap p : Nat) (s0 s1 : Int) (hn : (n : Int) ≤ 16384) (hp : p + 1 ≤ n) (c0 : w.cell? ⟨ab, ao + p * 4, none⟩ = some (.int .u8 21)) : Calls Try.prog 10 #[.slice (some ⟨ab, ao, none⟩) n cap, .int .i64 (p : Int), .int .u8 2] w fun e w' => e = .returned (.bool true) ∧ ∃ nq, w' = w.drewN nq := by
  have q0 : (0 : Int) ≤ p := by omega
  have q1 : (p : Int) < n := by omega
  have q2 : (p : Int) + 1 ≤ n := by omega
  go_enter Try.func10, Try.ntmps10
  go_wp2_with (go_at_call 11; refine (wd_2 _).mono ?_; rintro e w' ⟨rfl, rfl⟩)
  go_quiet ((go_at_call 13; exact Calls.quiet_of_same (kd_2 _)))
  go_wp2
  go_ret
  exact ⟨rfl, _, rfl⟩
set_option maxRecDepth 100000 in
set_option maxHeartbeats 1000000 in
theorem op_3 (ab ao cap p : Nat) (s0 s1 : Int) (hn : (n : Int) ≤ 16384) (hp : p + 2 ≤ n) (c0 : w.cell? ⟨ab, ao + p * 4, none⟩ = some (.int .u8 21)) (c1 : w.cell? ⟨ab, ao + p * 4 + 2, none⟩ = some (.int .u8 s0)) (c2 : w.cell? ⟨ab, ao + (p + 1) * 4, none⟩ = some (.int .u8 18)) (c3 : w.cell? ⟨ab, ao + (p + 1) * 4 + 2, none⟩ = some (.int .u8 s1)) (hfl : (bits BinOp.or IntKind.u8 (bits BinOp.and IntKind.u8 s0 2) (bits BinOp.and IntKind.u8 s1 1) == 0) = true) : Calls Try.prog 10 #[.slice (some ⟨ab, ao, none⟩) n cap, .int .i64 (p : Int), .int .u8 3] w fun e w' => e = .returned (.bool true) ∧ ∃ nq, w' = w.drewN nq := by
  have q0 : (0 : Int) ≤ p := by omega
  have q1 : (p : Int) < n := by omega
  have q2 : (p : Int) + 2 ≤ n := by omega
  have q3 : (p : Int) + 1 < n := by omega
  have q4 : ((p : Int) + 1).toNat = p + 1 := by omega
  have q5 : (bits BinOp.or IntKind.u8 (bits BinOp.and IntKind.u8 s0 2) (bits BinOp.and IntKind.u8 s1 1) != 0) = false := by simpa using hfl
  go_enter Try.func10, Try.ntmps10
  go_wp2_with (go_at_call 11; refine (wd_3 _).mono ?_; rintro e w' ⟨rfl, rfl⟩)
  go_quiet ((go_at_call 13; exact Calls.quiet_of_same (kd_3 _)))
  go_wp2
  go_quiet (fail)
  go_wp2
  go_ret
  exact ⟨rfl, _, by rw [World.drewN_drewN]⟩
set_option maxRecDepth 100000 in
set_option maxHeartbeats 1000000 in
theorem op_4 (ab ao cap p : Nat) (s0 s1 : Int) (hn : (n : Int) ≤ 16384) (hp : p + 1 ≤ n) (c0 : w.cell? ⟨ab, ao + p * 4, none⟩ = some (.int .u8 20)) : Calls Try.prog 10 #[.slice (some ⟨ab, ao, none⟩) n cap, .int .i64 (p : Int), .int .u8 4] w fun e w' => e = .returned (.bool true) ∧ ∃ nq, w' = w.drewN nq := by
  have q0 : (0 : Int) ≤ p := by omega
  have q1 : (p : Int) < n := by omega
  have q2 : (p : Int) + 1 ≤ n := by omega
  go_enter Try.func10, Try.ntmps10
  go_wp2_with (go_at_call 11; refine (wd_4 _).mono ?_; rintro e w' ⟨rfl, rfl⟩)
  go_quiet ((go_at_call 13; exact Calls.quiet_of_same (kd_4 _)))
  go_wp2
  go_ret
  exact ⟨rfl, _, rfl⟩
set_option maxRecDepth 100000 in
set_option maxHeartbeats 1000000 in
theorem op_5 (ab ao cap p : Nat) (s0 s1 : Int) (hn : (n : Int) ≤ 16384) (hp : p + 2 ≤ n) (c0 : w.cell? ⟨ab, ao + p * 4, none⟩ = some (.int .u8 20)) (c1 : w.cell? ⟨ab, ao + p * 4 + 2, none⟩ = some (.int .u8 s0)) (c2 : w.cell? ⟨ab, ao + (p + 1) * 4, none⟩ = some (.int .u8 18)) (c3 : w.cell? ⟨ab, ao + (p + 1) * 4 + 2, none⟩ = some (.int .u8 s1)) (hfl : (bits BinOp.or IntKind.u8 (bits BinOp.and IntKind.u8 s0 2) (bits BinOp.and IntKind.u8 s1 1) == 0) = true) : Calls Try.prog 10 #[.slice (some ⟨ab, ao, none⟩) n cap, .int .i64 (p : Int), .int .u8 5] w fun e w' => e = .returned (.bool true) ∧ ∃ nq, w' = w.drewN nq := by
  have q0 : (0 : Int) ≤ p := by omega
  have q1 : (p : Int) < n := by omega
  have q2 : (p : Int) + 2 ≤ n := by omega
  have q3 : (p : Int) + 1 < n := by omega
  have q4 : ((p : Int) + 1).toNat = p + 1 := by omega
  have q5 : (bits BinOp.or IntKind.u8 (bits BinOp.and IntKind.u8 s0 2) (bits BinOp.and IntKind.u8 s1 1) != 0) = false := by simpa using hfl
  go_enter Try.func10, Try.ntmps10
  go_wp2_with (go_at_call 11; refine (wd_5 _).mono ?_; rintro e w' ⟨rfl, rfl⟩)
  go_quiet ((go_at_call 13; exact Calls.quiet_of_same (kd_5 _)))
  go_wp2
  go_quiet (fail)
  go_wp2
  go_ret
  exact ⟨rfl, _, by rw [World.drewN_drewN]⟩
theorem op_any {a : Option Addr} (h : Toks w a n K S L T) (cap p : Nat) (c : Int) (hn : (n : Int) ≤ 16384) (h0 : 0 ≤ c) (h5 : c ≤ 5) (ho : OpAt n K S p c) :
    Calls Try.prog 10 #[.slice a n cap, .int .i64 (p : Int), .int .u8 c] w fun e w' => e = .returned (.bool true) ∧ ∃ nq, w' = w.drewN nq := by
  rcases ho with rfl | ⟨hc, hw, hk, h2⟩
  · exact (op_zero a cap p).mono fun e w' ⟨he, hw⟩ => ⟨he, 0, by rw [World.drewN_zero]; exact hw.symm⟩
  have hwp : 1 ≤ widthN c := by unfold widthN; split <;> (try split) <;> omega
  obtain ⟨ab, ao, rfl, ⟨c0, c1, c2, c3⟩, -⟩ := h p (by omega)
  rw [hk] at c0
  rcases (by omega : c = 1 ∨ c = 2 ∨ c = 3 ∨ c = 4 ∨ c = 5) with rfl | rfl | rfl | rfl | rfl
  · exact op_1 ab ao cap p 0 0 hn (by simpa [widthN] using hw) c0
  · exact op_2 ab ao cap p 0 0 hn (by simpa [widthN] using hw) c0
  · obtain ⟨ab', ao', e, ⟨d0, -, d2, -⟩, -⟩ := h (p + 1) (by simp [widthN] at hw; omega)
    obtain ⟨k1, hfl⟩ := h2 (by rfl)
    simp only [Option.some.injEq, Addr.mk.injEq, and_true] at e
    obtain ⟨rfl, rfl⟩ := e
    rw [k1] at d0
    exact op_3 ab ao cap p _ _ hn (by simpa [widthN] using hw) c0 c2 d0 d2 hfl
  · exact op_4 ab ao cap p 0 0 hn (by simpa [widthN] using hw) c0
  · obtain ⟨ab', ao', e, ⟨d0, -, d2, -⟩, -⟩ := h (p + 1) (by simp [widthN] at hw; omega)
    obtain ⟨k1, hfl⟩ := h2 (by rfl)
    simp only [Option.some.injEq, Addr.mk.injEq, and_true] at e
    obtain ⟨rfl, rfl⟩ := e
    rw [k1] at d0
    exact op_5 ab ao cap p _ _ hn (by simpa [widthN] using hw) c0 c2 d0 d2 hfl
set_option maxRecDepth 100000 in
set_option maxHeartbeats 1000000 in
theorem par_nil (w : World) : Calls Try.prog 12 #[.slice none 0 0] w fun e w' => e = .returned (.tuple #[.pointer none, .bool false]) ∧ ∃ nq, w' = w.drewN nq := by
  go_enter Try.func12, Try.ntmps12
  go_wp2_with fail
  refine (val_m0 none _).mono ?_
  rintro e w1 ⟨nq, rfl, rfl⟩
  go_wp2
  go_ret2
  exact ⟨rfl, _, rfl⟩
set_option maxHeartbeats 1000000 in
theorem zzp_nil (w : World) : Calls Try.prog 7 #[.slice none 0 0] w fun e w' => e = .returned (.tuple #[.pointer none, .bool false]) ∧ ∃ nq, w' = w.drewN nq := by
  go_enter Try.func7, Try.ntmps7
  go_wp2_with fail
  refine (par_nil _).mono ?_
  rintro e w1 ⟨rfl, nq, rfl⟩
  go_wp2
  go_ret2
  exact ⟨rfl, _, rfl⟩
end
end Go.Proofs.Ytoaanhipdjjeiaa.Scan
