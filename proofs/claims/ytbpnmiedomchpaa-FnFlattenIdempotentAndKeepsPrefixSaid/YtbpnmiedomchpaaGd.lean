/-
  A new parser.
-/
import Derived.Test.YtbpnmiedomchpaaGc
namespace Go.Proofs.Ytbpnmiedomchpaa.Fg
open Go.ChangeShapes Go.WideShapes Go.ChangeAt Go.RowKit Rg
set_option linter.unusedVariables false
set_option linter.unusedSimpArgs false
set_option maxRecDepth 100000 in
set_option maxHeartbeats 4000000 in
theorem npr_any (md : Nat) (w : World) (hmd : md < 256) : Calls Try.prog 9 #[.int .u8 (md : Nat), .bool false, .slice none 0 0, .string ⟨#[]⟩] w
    (fun e w' => ∃ pp, e = .returned (.pointer (some ⟨pp, 0, none⟩)) ∧ w.heap.size ≤ pp ∧ pp < w'.heap.size ∧ w'.cell? ⟨pp, 52, none⟩ = some (.int .u8 (md : Nat)) ∧ w'.cell? ⟨pp, 53, none⟩ = some (.bool false) ∧ w'.frozen? ⟨pp, 53, none⟩ = false ∧ Below w.heap.size w w') := by
  go_enter Try.func9, Try.ntmps9
  go_upto_region 2 with fail
  have hb : Below w.heap.size w (w.alloc (.cells #[.nilFunc, .nilFunc, .nilFunc, .nilFunc, .int .i8 0, .map none, .string ⟨#[]⟩, .string ⟨#[]⟩, .string ⟨#[]⟩, .string ⟨#[]⟩, .string ⟨#[]⟩, .string ⟨#[]⟩, .string ⟨#[]⟩, .string ⟨#[]⟩, .int .u8 0, .int .u32 0, .slice none 0 0, .slice none 0 0, .slice none 0 0, .slice none 0 0, .slice none 0 0, .slice none 0 0, .map none, .slice none 0 0, .map none, .map none, .map none, .string ⟨#[]⟩, .string ⟨#[]⟩, .string ⟨#[]⟩, .int .i32 0, .int .i32 0, .int .i32 0, .int .i32 0, .bool false, .bool false, .bool false, .slice none 0 0, .slice none 0 0, .slice none 0 0, .slice none 0 0, .int .i64 0, .int .i64 0, .int .i64 0, .int .i64 0, .int .i32 0, .map none, .string ⟨#[]⟩, .int .u16 0, .bool false, .bool false, .bool false, .int .u8 0, .bool false, .bool false, .bool false] 112)) := (Below.refl _ _).alloc (Nat.le_refl _) _
  have hr := rg_new w #[.nilFunc, .nilFunc, .nilFunc, .nilFunc, .int .i8 0, .map none, .string ⟨#[]⟩, .string ⟨#[]⟩, .string ⟨#[]⟩, .string ⟨#[]⟩, .string ⟨#[]⟩, .string ⟨#[]⟩, .string ⟨#[]⟩, .string ⟨#[]⟩, .int .u8 0, .int .u32 0, .slice none 0 0, .slice none 0 0, .slice none 0 0, .slice none 0 0, .slice none 0 0, .slice none 0 0, .map none, .slice none 0 0, .map none, .map none, .map none, .string ⟨#[]⟩, .string ⟨#[]⟩, .string ⟨#[]⟩, .int .i32 0, .int .i32 0, .int .i32 0, .int .i32 0, .bool false, .bool false, .bool false, .slice none 0 0, .slice none 0 0, .slice none 0 0, .slice none 0 0, .int .i64 0, .int .i64 0, .int .i64 0, .int .i64 0, .int .i32 0, .map none, .string ⟨#[]⟩, .int .u16 0, .bool false, .bool false, .bool false, .int .u8 0, .bool false, .bool false, .bool false] 112
  have ht := th_new w #[.nilFunc, .nilFunc, .nilFunc, .nilFunc, .int .i8 0, .map none, .string ⟨#[]⟩, .string ⟨#[]⟩, .string ⟨#[]⟩, .string ⟨#[]⟩, .string ⟨#[]⟩, .string ⟨#[]⟩, .string ⟨#[]⟩, .string ⟨#[]⟩, .int .u8 0, .int .u32 0, .slice none 0 0, .slice none 0 0, .slice none 0 0, .slice none 0 0, .slice none 0 0, .slice none 0 0, .map none, .slice none 0 0, .map none, .map none, .map none, .string ⟨#[]⟩, .string ⟨#[]⟩, .string ⟨#[]⟩, .int .i32 0, .int .i32 0, .int .i32 0, .int .i32 0, .bool false, .bool false, .bool false, .slice none 0 0, .slice none 0 0, .slice none 0 0, .slice none 0 0, .int .i64 0, .int .i64 0, .int .i64 0, .int .i64 0, .int .i32 0, .map none, .string ⟨#[]⟩, .int .u16 0, .bool false, .bool false, .bool false, .int .u8 0, .bool false, .bool false, .bool false] 112 (n := 56) rfl
  have hs : (w.alloc (.cells #[.nilFunc, .nilFunc, .nilFunc, .nilFunc, .int .i8 0, .map none, .string ⟨#[]⟩, .string ⟨#[]⟩, .string ⟨#[]⟩, .string ⟨#[]⟩, .string ⟨#[]⟩, .string ⟨#[]⟩, .string ⟨#[]⟩, .string ⟨#[]⟩, .int .u8 0, .int .u32 0, .slice none 0 0, .slice none 0 0, .slice none 0 0, .slice none 0 0, .slice none 0 0, .slice none 0 0, .map none, .slice none 0 0, .map none, .map none, .map none, .string ⟨#[]⟩, .string ⟨#[]⟩, .string ⟨#[]⟩, .int .i32 0, .int .i32 0, .int .i32 0, .int .i32 0, .bool false, .bool false, .bool false, .slice none 0 0, .slice none 0 0, .slice none 0 0, .slice none 0 0, .int .i64 0, .int .i64 0, .int .i64 0, .int .i64 0, .int .i32 0, .map none, .string ⟨#[]⟩, .int .u16 0, .bool false, .bool false, .bool false, .int .u8 0, .bool false, .bool false, .bool false] 112)).heap.size = w.heap.size + 1 := World.size_alloc _ _
  generalize w.alloc _ = w1 at *
  obtain ⟨pp, hpp⟩ : ∃ b, b = w.heap.size := ⟨_, rfl⟩
  rw [← hpp] at hr ht hs ⊢
  have a1 := hr 9 _ rfl
  have f1 := (ht 9 (by decide)).2
  have a2 := hr 52 _ rfl
  have f2 := (ht 52 (by decide)).2
  have a3 := hr 49 _ rfl
  have f3 := (ht 49 (by decide)).2
  have a4 := hr 53 _ rfl
  have f4 := (ht 53 (by decide)).2
  simp only [Nat.zero_add] at a1 a2 a3 a4 f1 f2 f3 f4
  have HB := Lib.hid (And.intro hb (And.intro hs (And.intro hpp ht)))
  clear hb hr ht hs hpp
  go_wp2_with fail
  go_ret
  have hp := HB.out.2.2.1
  have hsz := HB.out.2.1
  have s1 : (w1.setCell ⟨pp, 9, none⟩ (.string ⟨#[]⟩)).cell? ⟨pp, 52, none⟩ = some (.int .u8 0) := set_far (by omega) a2
  refine ⟨pp, rfl, by omega, by rw [size_set, size_set, size_set]; omega, set_far (by omega) (set_same (by rw [s1]; rfl)), set_far (by omega) (set_far (by omega) (set_far (by omega) a4)), ?_, ((HB.out.1.setCell (by show w.heap.size ≤ pp; omega) _).setCell (by show w.heap.size ≤ pp; omega) _).setCell (by show w.heap.size ≤ pp; omega) _⟩
  have h := (th_set (b := pp) (k := 49) (v := .bool false) (th_set (b := pp) (k := 52) (v := .int .u8 (md : Nat)) (th_set (b := pp) (k := 9) (v := .string ⟨#[]⟩) HB.out.2.2.2)) 53 (by decide)).2
  rwa [Nat.zero_add] at h
end Go.Proofs.Ytbpnmiedomchpaa.Fg
