/-
  Hashes of selectors.
-/
import Derived.Test.YthokeojpmbdbmaaDq
import Derived.Laws.RangeAny
import Derived.Laws.RangeString
namespace Go.Proofs.Ythokeojpmbdbmaa.Dr
open Go.ChangeShapes Go.WideShapes Go.ChangeAt Go.RowKit Rg
set_option linter.unusedVariables false
set_option linter.unusedSimpArgs false
def hcv (a b : Int) : Int := bits BinOp.xor IntKind.u32 a ((b + 2654435769 + a * 64 + a / 4) % 4294967296)
set_option maxRecDepth 100000 in
set_option maxHeartbeats 1000000 in
theorem hc47 (a b : Int) (w : World) : Calls Try.prog 47 #[.int .u32 a, .int .u32 b] w (fun e w' => e = .returned (.int .u32 (hcv a b)) ∧ w = w') := by
  go_enter Try.func47, Try.ntmps47
  go_wp2_with fail
  go_ret
  exact ⟨rfl, rfl⟩
theorem iter_below (w : World) (s : ByteArray) (k : Nat) : Below w.heap.size w (w.iter s k) := by
  unfold World.iter
  exact (Below.refl _ _).alloc (Nat.le_refl _) _
set_option maxRecDepth 100000 in
set_option maxHeartbeats 1000000 in
theorem hs50_nil (a : Int) (w : World) : Calls Try.prog 50 #[.int .u32 a, .string ⟨#[]⟩] w (fun e w' => e = .returned (.int .u32 (hcv a 0)) ∧ Below w.heap.size w w') := by
  have n0 : ∀ ty, (Instr.next (.pointer (some ⟨w.heap.size, 0, none⟩)) true ty).run Try.prog (w.iter ⟨#[]⟩ 0) = _ := fun ty => run_next_end w ⟨#[]⟩ 0 ty (by decide)
  go_enter Try.func50, Try.ntmps50
  go_wp2_with fail
  refine (hc47 _ _ _).mono ?_
  rintro e w1 ⟨rfl, hf⟩
  rw [← hf]
  clear hf w1
  go_upto_block 0 with fail
  refine wp_block ?_
  refine wp_loop_rounds 1 ?_
  rw [rounds_succ]
  go_wp2_with fail
  go_ret
  exact ⟨rfl, iter_below _ _ _⟩
set_option maxRecDepth 100000 in
set_option maxHeartbeats 4000000 in
theorem hs50_hov (a : Int) (w : World) : Calls Try.prog 50 #[.int .u32 a, .string ⟨#[104, 111, 118, 101, 114]⟩] w (fun e w' => e = .returned (.int .u32 (hcv (hcv (hcv (hcv (hcv (hcv a 5) 104) 111) 118) 101) 114)) ∧ Below w.heap.size w w') := by
  have n0 : ∀ ty, (Instr.next (.pointer (some ⟨w.heap.size, 0, none⟩)) true ty).run Try.prog (w.iter ⟨#[104, 111, 118, 101, 114]⟩ 0) = .ok (.tuple #[.bool true, .int .i64 0, .int .i32 104]) (w.iter ⟨#[104, 111, 118, 101, 114]⟩ 1) := fun ty => (run_next_any w ⟨#[104, 111, 118, 101, 114]⟩ 0 ty (by decide)).trans (by rfl)
  have n1 : ∀ ty, (Instr.next (.pointer (some ⟨w.heap.size, 0, none⟩)) true ty).run Try.prog (w.iter ⟨#[104, 111, 118, 101, 114]⟩ 1) = .ok (.tuple #[.bool true, .int .i64 1, .int .i32 111]) (w.iter ⟨#[104, 111, 118, 101, 114]⟩ 2) := fun ty => (run_next_any w ⟨#[104, 111, 118, 101, 114]⟩ 1 ty (by decide)).trans (by rfl)
  have n2 : ∀ ty, (Instr.next (.pointer (some ⟨w.heap.size, 0, none⟩)) true ty).run Try.prog (w.iter ⟨#[104, 111, 118, 101, 114]⟩ 2) = .ok (.tuple #[.bool true, .int .i64 2, .int .i32 118]) (w.iter ⟨#[104, 111, 118, 101, 114]⟩ 3) := fun ty => (run_next_any w ⟨#[104, 111, 118, 101, 114]⟩ 2 ty (by decide)).trans (by rfl)
  have n3 : ∀ ty, (Instr.next (.pointer (some ⟨w.heap.size, 0, none⟩)) true ty).run Try.prog (w.iter ⟨#[104, 111, 118, 101, 114]⟩ 3) = .ok (.tuple #[.bool true, .int .i64 3, .int .i32 101]) (w.iter ⟨#[104, 111, 118, 101, 114]⟩ 4) := fun ty => (run_next_any w ⟨#[104, 111, 118, 101, 114]⟩ 3 ty (by decide)).trans (by rfl)
  have n4 : ∀ ty, (Instr.next (.pointer (some ⟨w.heap.size, 0, none⟩)) true ty).run Try.prog (w.iter ⟨#[104, 111, 118, 101, 114]⟩ 4) = .ok (.tuple #[.bool true, .int .i64 4, .int .i32 114]) (w.iter ⟨#[104, 111, 118, 101, 114]⟩ 5) := fun ty => (run_next_any w ⟨#[104, 111, 118, 101, 114]⟩ 4 ty (by decide)).trans (by rfl)
  have n5 : ∀ ty, (Instr.next (.pointer (some ⟨w.heap.size, 0, none⟩)) true ty).run Try.prog (w.iter ⟨#[104, 111, 118, 101, 114]⟩ 5) = _ := fun ty => run_next_end w ⟨#[104, 111, 118, 101, 114]⟩ 5 ty (by decide)
  go_enter Try.func50, Try.ntmps50
  go_wp2_with fail
  refine (hc47 _ _ _).mono ?_
  rintro e w1 ⟨rfl, hf⟩
  rw [← hf]
  clear hf w1
  go_upto_block 0 with fail
  refine wp_block ?_
  refine wp_loop_rounds 6 ?_
  rw [rounds_succ]
  go_wp2_with fail
  refine (hc47 _ _ _).mono ?_
  rintro e w1 ⟨rfl, hf⟩
  rw [← hf]
  clear hf w1
  go_wp2_with fail
  rw [rounds_succ]
  go_wp2_with fail
  refine (hc47 _ _ _).mono ?_
  rintro e w1 ⟨rfl, hf⟩
  rw [← hf]
  clear hf w1
  go_wp2_with fail
  rw [rounds_succ]
  go_wp2_with fail
  refine (hc47 _ _ _).mono ?_
  rintro e w1 ⟨rfl, hf⟩
  rw [← hf]
  clear hf w1
  go_wp2_with fail
  rw [rounds_succ]
  go_wp2_with fail
  refine (hc47 _ _ _).mono ?_
  rintro e w1 ⟨rfl, hf⟩
  rw [← hf]
  clear hf w1
  go_wp2_with fail
  rw [rounds_succ]
  go_wp2_with fail
  refine (hc47 _ _ _).mono ?_
  rintro e w1 ⟨rfl, hf⟩
  rw [← hf]
  clear hf w1
  go_wp2_with fail
  rw [rounds_succ]
  go_wp2_with fail
  go_ret
  exact ⟨rfl, iter_below _ _ _⟩
set_option maxRecDepth 100000 in
set_option maxHeartbeats 1000000 in
theorem ht64_nil (a : Int) (w : World) : Calls Try.prog 64 #[.int .u32 a, .slice none 0 0] w (fun e w' => e = .returned (.int .u32 (hcv a 0)) ∧ w = w') := by
  go_enter Try.func64, Try.ntmps64
  go_wp2_with fail
  refine (hc47 _ _ _).mono ?_
  rintro e w1 ⟨rfl, hf⟩
  rw [← hf]
  clear hf w1
  go_upto_block 0 with fail
  refine wp_block ?_
  refine wp_loop_rounds 1 ?_
  rw [rounds_succ]
  go_wp2_with fail
  go_ret
  exact ⟨rfl, rfl⟩
set_option maxRecDepth 100000 in
set_option maxHeartbeats 1000000 in
theorem hr49_nil (a : Int) (w : World) : Calls Try.prog 49 #[.int .u32 a, .slice none 0 0] w (fun e w' => e = .returned (.int .u32 (hcv a 0)) ∧ w = w') := by
  go_enter Try.func49, Try.ntmps49
  go_wp2_with fail
  refine (hc47 _ _ _).mono ?_
  rintro e w1 ⟨rfl, hf⟩
  rw [← hf]
  clear hf w1
  go_upto_block 0 with fail
  refine wp_block ?_
  refine wp_loop_rounds 1 ?_
  rw [rounds_succ]
  go_wp2_with fail
  go_ret
  exact ⟨rfl, rfl⟩
def hP : Int := hcv (hcv (hcv (hcv (hcv (hcv (hcv 4 5) 104) 111) 118) 101) 114) 0
set_option maxRecDepth 100000 in
set_option maxHeartbeats 1000000 in
theorem h62 (p : Nat) (w : World) (hp : w.rangeAt p 0 pcl) : Calls Try.prog 62 #[.pointer (some ⟨p, 0, none⟩)] w (fun e w' => e = .returned (.int .u32 hP) ∧ Below w.heap.size w w') := by
  have a0 := hp 0 _ rfl
  have a1 := hp 1 _ rfl
  simp only [Nat.zero_add] at a0 a1
  have HA := Lib.hid a1
  clear hp a1
  go_enter Try.func62, Try.ntmps62
  go_wp2_with fail
  refine (hs50_hov _ w).mono ?_
  rintro e w1 ⟨rfl, hf⟩
  have a1 := later hf HA.out
  have HF := Lib.hid hf
  clear hf
  go_wp2_with fail
  refine (ht64_nil _ w1).mono ?_
  rintro e w2 ⟨rfl, hf⟩
  rw [← hf]
  clear hf w2
  go_wp2_with fail
  go_ret
  exact ⟨rfl, HF.out⟩
end Go.Proofs.Ythokeojpmbdbmaa.Dr
