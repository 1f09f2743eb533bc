/-
  Tokens without children, by value: the small functions.
-/
import Derived.Test.YtfhfeimlikpbpaaDoorSl
import Derived.Laws.Strings
namespace Go.Proofs.YtfhfeimlikpbpaaDoor.Cs
open Go.ChangeShapes Go.WideShapes Go.ChangeAt Go.RowKit Rg
set_option linter.unusedVariables false
/-- a token's seven cells -/
def tk (k s : Int) (t : ByteArray) : List Value := [.pointer none, .string t, .int .i32 0, .int .u32 0, .int .u16 0, .int .u8 k, .int .u8 s]
theorem tk_len (k s : Int) (t : ByteArray) : (tk k s t).length = 7 := rfl
theorem tk_one (k s : Int) (t : ByteArray) : ∀ u ∈ tk k s t, u.oneCell' = true := by
  intro u hu; simp [tk] at hu; rcases hu with rfl | rfl | rfl | rfl | rfl | rfl | rfl <;> rfl
theorem tyTok : ∃ d, Tryd.prog.underlying 42 = some d ∧ d.isRow = true := ⟨_, Tryd.underlying42, rfl⟩
theorem szTok : (Tryd.prog.info? 42).map (·.size) = some 7 := by kernel_rfl
theorem tySt : ∃ d, Tryd.prog.underlying 44 = some d ∧ d.isRow = true := ⟨_, Tryd.underlying44, rfl⟩
theorem szSt : (Tryd.prog.info? 44).map (·.size) = some 15 := by kernel_rfl
theorem infoTok : (Tryd.prog.info? 42).map (fun i => (i.zero, i.size, i.bytes)) = some (some (.agg #[.pointer none, .string ⟨#[]⟩, .int .i32 0, .int .u32 0, .int .u16 0, .int .u8 0, .int .u8 0]), 7, 40) := by kernel_rfl
theorem infoSt : (Tryd.prog.info? 44).map (fun i => (i.zero, i.size, i.bytes)) = some (some (.agg #[.slice none 0 0, .pointer none, .string ⟨#[]⟩, .int .i32 0, .int .u32 0, .int .u16 0, .int .u8 0, .int .u8 0, .pointer none, .string ⟨#[]⟩, .int .i32 0, .int .u32 0, .int .u16 0, .int .u8 0, .int .u8 0]), 15, 104) := by kernel_rfl
theorem tk_all (k s : Int) (t : ByteArray) : (tk k s t).toArray.all (·.oneCell') = true := by simp [tk, Value.oneCell']
/-- the kind of a midpoint token -/
def mk (m : ByteArray) : Int := if m = ⟨#[]⟩ then 0 else 34
/-- a colour stop's fifteen cells -/
def st (v : Value) (c m : ByteArray) : List Value := [v, .pointer none, .string c, .int .i32 0, .int .u32 0, .int .u16 0, .int .u8 29, .int .u8 2, .pointer none, .string m, .int .i32 0, .int .u32 0, .int .u16 0, .int .u8 (mk m), .int .u8 0]
theorem st_len (v : Value) (c m : ByteArray) : (st v c m).length = 15 := rfl
theorem tl_ext {a b : ByteArray} (h : a.toList = b.toList) : a = b := by
  rw [ByteArray.toList_eq, ByteArray.toList_eq] at h
  cases a; cases b
  simpa using h
theorem tl_ne {c : ByteArray} (h : ¬ c = ⟨#[]⟩) : c.toList.isEmpty = false := by
  cases hc : c.toList.isEmpty
  · rfl
  · refine absurd (tl_ext ?_) h
    rw [List.isEmpty_iff.1 hc, ByteArray.toList_eq]
set_option maxHeartbeats 400000 in
theorem min_any (a b : Nat) (w : World) : Calls Tryd.prog 8 #[.int .i64 a, .int .i64 b] w fun e w' => e = .returned (.int .i64 (if a < b then a else b : Nat)) ∧ w = w' := by
  by_cases h : (a : Int) < b
  · rw [if_pos (by omega)]
    go_enter Tryd.func8, Tryd.ntmps8
    go_wp2; go_ret; exact ⟨rfl, rfl⟩
  · rw [if_neg (by omega)]
    go_enter Tryd.func8, Tryd.ntmps8
    go_wp2; go_ret; exact ⟨rfl, rfl⟩
set_option maxRecDepth 100000 in
set_option maxHeartbeats 1000000 in
theorem teq_any (k s : Int) (t : ByteArray) (w : World) : Calls Tryd.prog 13 #[.agg #[.pointer none, .string t, .int .i32 0, .int .u32 0, .int .u16 0, .int .u8 k, .int .u8 s], .agg #[.pointer none, .string t, .int .i32 0, .int .u32 0, .int .u16 0, .int .u8 k, .int .u8 s]] w fun e w' => e = .returned (.bool true) ∧ Below w.heap.size w w' := by
  go_enter Tryd.func13, Tryd.ntmps13
  go_wp2
  go_ret
  exact ⟨by simp, ((Below.refl _ _).alloc (Nat.le_refl _) _).alloc (by simp) _⟩
set_option maxRecDepth 100000 in
set_option maxHeartbeats 1000000 in
theorem col_any (c : ByteArray) (w : World) : Calls Tryd.prog 16 #[.string c] w fun e w' => e = .returned (.agg #[.pointer none, .string c, .int .i32 0, .int .u32 0, .int .u16 0, .int .u8 29, .int .u8 2]) ∧ Below w.heap.size w w' := by
  go_enter Tryd.func16, Tryd.ntmps16
  go_wp2
  refine bodyPost_ret (v := .agg #[.pointer none, .string c, .int .i32 0, .int .u32 0, .int .u16 0, .int .u8 29, .int .u8 2]) (by simp [results, Tryd.results16, go_sem]) rfl ⟨rfl, ?_⟩
  exact ((Below.refl _ _).alloc (Nat.le_refl _) _)
set_option maxRecDepth 100000 in
set_option maxHeartbeats 1000000 in
theorem mid_any (c : ByteArray) (w : World) : Calls Tryd.prog 17 #[.string c] w fun e w' => e = .returned (.agg #[.pointer none, .string c, .int .i32 0, .int .u32 0, .int .u16 0, .int .u8 (mk c), .int .u8 0]) ∧ Below w.heap.size w w' := by
  by_cases h : c = ⟨#[]⟩
  · subst h
    go_enter Tryd.func17, Tryd.ntmps17
    go_wp2
    refine bodyPost_ret (v := .agg #[.pointer none, .string ⟨#[]⟩, .int .i32 0, .int .u32 0, .int .u16 0, .int .u8 0, .int .u8 0]) (by simp [results, Tryd.results17, go_sem]) rfl ⟨rfl, ?_⟩
    exact ((Below.refl _ _).alloc (Nat.le_refl _) _)
  · rw [show mk c = 34 from if_neg h]
    have h1 := tl_ne h
    clear h
    go_enter Tryd.func17, Tryd.ntmps17
    go_wp2
    refine bodyPost_ret (v := .agg #[.pointer none, .string c, .int .i32 0, .int .u32 0, .int .u16 0, .int .u8 34, .int .u8 0]) (by simp [results, Tryd.results17, go_sem]) rfl ⟨rfl, ?_⟩
    exact ((Below.refl _ _).alloc (Nat.le_refl _) _)
set_option maxRecDepth 100000 in
set_option maxHeartbeats 1000000 in
theorem new_any (a : Option Addr) (n cp : Nat) (c m : ByteArray) (k : Int) (w : World) : Calls Tryd.prog 15 #[.agg #[.pointer none, .string c, .int .i32 0, .int .u32 0, .int .u16 0, .int .u8 29, .int .u8 2], .slice a n cp, .agg #[.pointer none, .string m, .int .i32 0, .int .u32 0, .int .u16 0, .int .u8 k, .int .u8 0]] w fun e w' => e = .returned (.agg #[.slice a n cp, .pointer none, .string c, .int .i32 0, .int .u32 0, .int .u16 0, .int .u8 29, .int .u8 2, .pointer none, .string m, .int .i32 0, .int .u32 0, .int .u16 0, .int .u8 k, .int .u8 0]) ∧ Below w.heap.size w w' := by
  go_enter Tryd.func15, Tryd.ntmps15
  go_wp2
  refine bodyPost_ret (v := .agg #[.slice a n cp, .pointer none, .string c, .int .i32 0, .int .u32 0, .int .u16 0, .int .u8 29, .int .u8 2, .pointer none, .string m, .int .i32 0, .int .u32 0, .int .u16 0, .int .u8 k, .int .u8 0]) (by simp [results, Tryd.results15, go_sem]) rfl ⟨rfl, ?_⟩
  exact (((Below.refl _ _).alloc (Nat.le_refl _) _).alloc (by simp) _).alloc (by simp; omega) _
set_option maxRecDepth 100000 in
set_option maxHeartbeats 1000000 in
theorem gcol_any (v : Value) (c m : ByteArray) (k : Int) (w : World) : Calls Tryd.prog 19 #[.agg #[v, .pointer none, .string c, .int .i32 0, .int .u32 0, .int .u16 0, .int .u8 29, .int .u8 2, .pointer none, .string m, .int .i32 0, .int .u32 0, .int .u16 0, .int .u8 k, .int .u8 0]] w fun e w' => e = .returned (.agg #[.pointer none, .string c, .int .i32 0, .int .u32 0, .int .u16 0, .int .u8 29, .int .u8 2]) ∧ Below w.heap.size w w' := by
  go_enter Tryd.func19, Tryd.ntmps19
  go_wp2
  refine bodyPost_ret (v := .agg #[.pointer none, .string c, .int .i32 0, .int .u32 0, .int .u16 0, .int .u8 29, .int .u8 2]) (by simp [results, Tryd.results19, go_sem]) rfl ⟨rfl, ?_⟩
  exact ((Below.refl _ _).alloc (Nat.le_refl _) _).alloc (by simp) _
set_option maxRecDepth 100000 in
set_option maxHeartbeats 1000000 in
theorem gmid_any (v : Value) (c m : ByteArray) (k : Int) (w : World) : Calls Tryd.prog 20 #[.agg #[v, .pointer none, .string c, .int .i32 0, .int .u32 0, .int .u16 0, .int .u8 29, .int .u8 2, .pointer none, .string m, .int .i32 0, .int .u32 0, .int .u16 0, .int .u8 k, .int .u8 0]] w fun e w' => e = .returned (.agg #[.pointer none, .string m, .int .i32 0, .int .u32 0, .int .u16 0, .int .u8 k, .int .u8 0]) ∧ Below w.heap.size w w' := by
  go_enter Tryd.func20, Tryd.ntmps20
  go_wp2
  refine bodyPost_ret (v := .agg #[.pointer none, .string m, .int .i32 0, .int .u32 0, .int .u16 0, .int .u8 k, .int .u8 0]) (by simp [results, Tryd.results20, go_sem]) rfl ⟨rfl, ?_⟩
  exact ((Below.refl _ _).alloc (Nat.le_refl _) _).alloc (by simp) _
set_option maxRecDepth 100000 in
set_option maxHeartbeats 1000000 in
theorem gpos_any (v : Value) (c m : ByteArray) (k : Int) (w : World) : Calls Tryd.prog 12 #[.agg #[v, .pointer none, .string c, .int .i32 0, .int .u32 0, .int .u16 0, .int .u8 29, .int .u8 2, .pointer none, .string m, .int .i32 0, .int .u32 0, .int .u16 0, .int .u8 k, .int .u8 0]] w fun e w' => e = .returned v ∧ Below w.heap.size w w' := by
  go_enter Tryd.func12, Tryd.ntmps12
  go_wp2
  go_ret
  exact ⟨rfl, ((Below.refl _ _).alloc (Nat.le_refl _) _)⟩
end Go.Proofs.YtfhfeimlikpbpaaDoor.Cs
