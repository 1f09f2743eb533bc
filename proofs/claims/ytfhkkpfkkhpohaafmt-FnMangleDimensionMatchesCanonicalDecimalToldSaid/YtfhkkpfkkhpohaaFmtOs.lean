/-
  SimpleFold at five runes; DecodeRuneInString at two closed strings.
-/
import Derived.Test.YtfhkkpfkkhpohaaFmtOt
import Derived.Deep.LoopGhost
namespace Go.Proofs.YtfhkkpfkkhpohaaFmt.Sd
open Go.ChangeShapes Go.WideShapes Go.ChangeAt Go.RowKit Rg
set_option linter.unusedVariables false
set_option maxRecDepth 100000 in
theorem sf115 (w : World) (h : FT w) : Calls Tryf.prog 16 #[.int .i32 115] w fun e w' => e = .returned (.int .i32 383) ∧ w = w' := by
  have h1 := h.a115
  clear h
  go_enter Tryf.func16, Tryf.ntmps16
  go_wp2
  go_ret
  exact ⟨rfl, rfl⟩
set_option maxRecDepth 100000 in
theorem sf83 (w : World) (h : FT w) : Calls Tryf.prog 16 #[.int .i32 83] w fun e w' => e = .returned (.int .i32 115) ∧ w = w' := by
  have h1 := h.a83
  clear h
  go_enter Tryf.func16, Tryf.ntmps16
  go_wp2
  go_ret
  exact ⟨rfl, rfl⟩
set_option maxRecDepth 100000 in
theorem sf109 (w : World) (h : FT w) : Calls Tryf.prog 16 #[.int .i32 109] w fun e w' => e = .returned (.int .i32 77) ∧ w = w' := by
  have h1 := h.a109
  clear h
  go_enter Tryf.func16, Tryf.ntmps16
  go_wp2
  go_ret
  exact ⟨rfl, rfl⟩
set_option maxRecDepth 100000 in
theorem sf77 (w : World) (h : FT w) : Calls Tryf.prog 16 #[.int .i32 77] w fun e w' => e = .returned (.int .i32 109) ∧ w = w' := by
  have h1 := h.a77
  clear h
  go_enter Tryf.func16, Tryf.ntmps16
  go_wp2
  go_ret
  exact ⟨rfl, rfl⟩
set_option maxRecDepth 100000 in
theorem dr_s (w : World) : Calls Tryf.prog 15 #[.string ⟨#[115]⟩] w fun e w' => e = .returned (.tuple #[.int .i32 115, .int .i64 1]) ∧ w = w' := by
  go_enter Tryf.func15, Tryf.ntmps15
  go_wp2
  go_ret2
  exact ⟨rfl, rfl⟩
set_option maxRecDepth 100000 in
theorem dr_ms (w : World) : Calls Tryf.prog 15 #[.string ⟨#[109, 115]⟩] w fun e w' => e = .returned (.tuple #[.int .i32 109, .int .i64 1]) ∧ w = w' := by
  go_enter Tryf.func15, Tryf.ntmps15
  go_wp2
  go_ret2
  exact ⟨rfl, rfl⟩
/-- the binary search for 383 -/
def sqL : Nat → Int
  | 4 => 6
  | 5 => 9
  | 6 => 9
  | 7 => 10
  | _ => 0
def sqH : Nat → Int
  | 0 => 94
  | 1 => 47
  | 2 => 23
  | 3 => 11
  | 4 => 11
  | 5 => 11
  | _ => 10
theorem sq_cases {k : Nat} (h : k ≤ 7) : k = 0 ∨ k = 1 ∨ k = 2 ∨ k = 3 ∨ k = 4 ∨ k = 5 ∨ k = 6 ∨ k = 7 := by omega
set_option maxRecDepth 100000 in
set_option maxHeartbeats 2000000 in
theorem sf383 (w : World) (h : FT w) : Calls Tryf.prog 16 #[.int .i32 383] w fun e w' => e = .returned (.int .i32 83) ∧ w = w' := by
  obtain ⟨R, oR, cap, h1, h2⟩ := h.orb
  have c47 := (h2 47 966 981 (by rfl)).1
  have c23 := (h2 23 837 921 (by rfl)).1
  have c11 := (h2 11 452 453 (by rfl)).1
  have c5 := (h2 5 197 229 (by rfl)).1
  have c8 := (h2 8 304 304 (by rfl)).1
  have c10 := (h2 10 383 83 (by rfl)).1
  have d10 := (h2 10 383 83 (by rfl)).2
  have c9 := (h2 9 305 305 (by rfl)).1
  clear h h2
  go_enter Tryf.func16, Tryf.ntmps16
  go_wp2_with fail
  go_loop [3, 4] (fun s3 s4 => ∃ k : Nat, k ≤ 7 ∧ s3 = .int .i64 (sqL k) ∧ s4 = .int .i64 (sqH k)) (fun s3 s4 => (intOf s4 - intOf s3).toNat)
  case atStart => exact ⟨0, by omega, rfl, rfl⟩
  case round =>
    obtain ⟨k, hk, rfl, rfl⟩ := hrel
    rcases sq_cases hk with rfl | rfl | rfl | rfl | rfl | rfl | rfl | rfl
    all_goals simp only [sqL, sqH]
    · go_wp2_with fail
      go_round
      case rel => exact ⟨1, by omega, rfl, rfl⟩
      case measure => simp [intOf]
    · go_wp2_with fail
      go_round
      case rel => exact ⟨2, by omega, rfl, rfl⟩
      case measure => simp [intOf]
    · go_wp2_with fail
      go_round
      case rel => exact ⟨3, by omega, rfl, rfl⟩
      case measure => simp [intOf]
    · go_wp2_with fail
      go_round
      case rel => exact ⟨4, by omega, rfl, rfl⟩
      case measure => simp [intOf]
    · go_wp2_with fail
      go_round
      case rel => exact ⟨5, by omega, rfl, rfl⟩
      case measure => simp [intOf]
    · go_wp2_with fail
      go_round
      case rel => exact ⟨6, by omega, rfl, rfl⟩
      case measure => simp [intOf]
    · go_wp2_with fail
      go_round
      case rel => exact ⟨7, by omega, rfl, rfl⟩
      case measure => simp [intOf]
    · go_wp2_with fail
      go_ret
      exact ⟨rfl, rfl⟩
end Go.Proofs.YtfhkkpfkkhpohaaFmt.Sd
