import Derived.Test.YtoaanhipdjjeiaaSca
import Derived.Laws.Entries
namespace Go.Proofs.Ytoaanhipdjjeiaa.Scan
open Go.ChangeShapes Go.WideShapes Go.ChangeAt Go.RowKit Go.Deep
set_option linter.unusedVariables false
set_option maxRecDepth 100000 in
set_option maxHeartbeats 1000000 in
theorem isi_yes (g o c : Nat) (l : Int) (t : ByteArray) (w : World) (c0 : w.cell? ⟨g, o + 5, none⟩ = some (.int .u8 29)) (c1 : w.cell? ⟨g, o + 1, none⟩ = some (.string t)) (c2 : w.cell? ⟨g, o + 2, none⟩ = some (.int .i32 l)) :
    Calls Try.prog 16 #[.slice (some ⟨g, o, none⟩) 1 c] w fun e w' => e = .returned (.tuple #[.string t, .agg #[.int .i32 l], .bool true]) ∧ Below w.heap.size w w' := by
  have a0 := alloc_cell c0
  have a1 := alloc_cell c1
  have a2 := alloc_cell c2
  clear c0 c1 c2
  go_enter Try.func16, Try.ntmps16
  go_wp2
  go_region
  go_wp2
  refine bodyPost_ret (v := .tuple #[.string t, .agg #[.int .i32 l], .bool true]) (by simp [results, Try.results16, go_sem]) rfl ⟨rfl, ?_⟩
  exact ((Below.refl _ _).alloc (Nat.le_refl _) _).drew
set_option maxRecDepth 100000 in
set_option maxHeartbeats 1000000 in
theorem isi_no (A : Option Addr) (n c : Nat) (w : World) (hn : ((n : Int) == 1) = false) :
    Calls Try.prog 16 #[.slice A n c] w fun e w' => (∃ l, e = .returned (.tuple #[.string ⟨#[]⟩, .agg #[.int .i32 l], .bool false])) ∧ Below w.heap.size w w' := by
  go_enter Try.func16, Try.ntmps16
  go_wp2
  refine bodyPost_ret (v := .tuple #[.string ⟨#[]⟩, .agg #[.int .i32 0], .bool false]) (by simp [results, Try.results16, go_sem]) rfl ⟨⟨_, rfl⟩, ?_⟩
  exact (Below.refl _ _).alloc (Nat.le_refl _) _
set_option maxRecDepth 100000 in
set_option maxHeartbeats 1000000 in
theorem isi_kind (g o c : Nat) (k0 : Int) (w : World) (c0 : w.cell? ⟨g, o + 5, none⟩ = some (.int .u8 k0)) (x : (k0 == 29) = false) :
    Calls Try.prog 16 #[.slice (some ⟨g, o, none⟩) 1 c] w fun e w' => (∃ l, e = .returned (.tuple #[.string ⟨#[]⟩, .agg #[.int .i32 l], .bool false])) ∧ Below w.heap.size w w' := by
  have a0 := alloc_cell c0
  clear c0
  go_enter Try.func16, Try.ntmps16
  go_wp2
  refine bodyPost_ret (v := .tuple #[.string ⟨#[]⟩, .agg #[.int .i32 0], .bool false]) (by simp [results, Try.results16, go_sem]) rfl ⟨⟨_, rfl⟩, ?_⟩
  exact (Below.refl _ _).alloc (Nat.le_refl _) _
/-- the direction of a comparison -/
def dirI (c : Int) : Int := if c = 2 ∨ c = 3 then -1 else if c = 4 ∨ c = 5 then 1 else 0
set_option maxHeartbeats 400000 in
theorem dir_any (c : Int) (w : World) (h0 : 0 ≤ c) (h5 : c ≤ 5) : Calls Try.prog 17 #[.int .u8 c] w fun e w' => e = .returned (.int .i64 (dirI c)) ∧ w = w' := by
  rcases (by omega : c = 0 ∨ c = 1 ∨ c = 2 ∨ c = 3 ∨ c = 4 ∨ c = 5) with rfl | rfl | rfl | rfl | rfl | rfl <;>
  · go_enter Try.func17, Try.ntmps17
    go_wp2
    go_ret
    exact ⟨rfl, rfl⟩
/-- how many tokens a comparison takes -/
def widthN (c : Int) : Nat := if c = 3 ∨ c = 5 then 2 else if c = 1 ∨ c = 2 ∨ c = 4 then 1 else 0
def kindI (c : Int) : Int := if c = 1 then 18 else if c = 2 ∨ c = 3 then 21 else if c = 4 ∨ c = 5 then 20 else 0
set_option maxHeartbeats 400000 in
theorem width_any (c : Int) (w : World) (h0 : 0 ≤ c) (h5 : c ≤ 5) : Calls Try.prog 11 #[.int .u8 c] w fun e w' => e = .returned (.int .i64 (widthN c : Nat)) ∧ w = w' := by
  rcases (by omega : c = 0 ∨ c = 1 ∨ c = 2 ∨ c = 3 ∨ c = 4 ∨ c = 5) with rfl | rfl | rfl | rfl | rfl | rfl <;>
  · go_enter Try.func11, Try.ntmps11
    go_wp2
    go_ret
    exact ⟨rfl, rfl⟩
set_option maxHeartbeats 400000 in
theorem kind_any (c : Int) (w : World) (h0 : 0 ≤ c) (h5 : c ≤ 5) : Calls Try.prog 13 #[.int .u8 c] w fun e w' => e = .returned (.int .u8 (kindI c)) ∧ w = w' := by
  rcases (by omega : c = 0 ∨ c = 1 ∨ c = 2 ∨ c = 3 ∨ c = 4 ∨ c = 5) with rfl | rfl | rfl | rfl | rfl | rfl <;>
  · go_enter Try.func13, Try.ntmps13
    go_wp2
    go_ret
    exact ⟨rfl, rfl⟩
set_option maxRecDepth 100000 in
set_option maxHeartbeats 1000000 in
theorem same_any (k s s' l : Int) (t : ByteArray) (w : World) : Calls Try.prog 9 #[.agg #[.pointer none, .string t, .int .i32 l, .int .u32 0, .int .u16 0, .int .u8 k, .int .u8 s], .agg #[.int .u8 k, .string t, .int .u8 s', .int .i32 l]] w fun e w' => e = .returned (.bool true) ∧ Below w.heap.size w w' := by
  go_enter Try.func9, Try.ntmps9
  go_wp2
  go_ret
  exact ⟨rfl, ((Below.refl _ _).alloc (Nat.le_refl _) _).alloc (by simp) _⟩
/-- the comparison c is spelled at token p -/
def OpAt (n : Nat) (K S : Nat → Int) (p : Nat) (c : Int) : Prop :=
  c = 0 ∨ (0 < c ∧ p + widthN c ≤ n ∧ K p = kindI c ∧ (widthN c = 2 → K (p + 1) = 18 ∧ (bits BinOp.or IntKind.u8 (bits BinOp.and IntKind.u8 (S p) 2) (bits BinOp.and IntKind.u8 (S (p + 1)) 1) == 0) = true))
end Go.Proofs.Ytoaanhipdjjeiaa.Scan
