/-
  The builders of one pseudo-class, of one rule; keys and deadness of one pseudo-class.
-/
import Derived.Test.YthokeojpmbdbmaaDb
namespace Go.Proofs.Ythokeojpmbdbmaa.Dr
open Go.ChangeShapes Go.WideShapes Go.ChangeAt Go.RowKit Rg
set_option linter.unusedVariables false
set_option linter.unusedSimpArgs false
theorem tySub : ∃ d, Try.prog.underlying 94 = some d ∧ d.isRow = true := ⟨_, Try.underlying94, rfl⟩
theorem szSub : (Try.prog.info? 94).map (·.size) = some 3 := by kernel_rfl
theorem tyCmp : ∃ d, Try.prog.underlying 83 = some d ∧ d.isRow = true := ⟨_, Try.underlying83, rfl⟩
theorem szCmp : (Try.prog.info? 83).map (·.size) = some 6 := by kernel_rfl
theorem tyCpl : ∃ d, Try.prog.underlying 48 = some d ∧ d.isRow = true := ⟨_, Try.underlying48, rfl⟩
theorem szCpl : (Try.prog.info? 48).map (·.size) = some 1 := by kernel_rfl
theorem tyRul : ∃ d, Try.prog.underlying 56 = some d ∧ d.isRow = true := ⟨_, Try.underlying56, rfl⟩
theorem szRul : (Try.prog.info? 56).map (·.size) = some 2 := by kernel_rfl
theorem infoSub : (Try.prog.info? 94).map (fun i => (i.zero, i.size, i.bytes)) = some (some (.agg #[.nilIface, .int .i32 0, .int .i32 0]), 3, 24) := by kernel_rfl
theorem infoCmp : (Try.prog.info? 83).map (fun i => (i.zero, i.size, i.bytes)) = some (some (.agg #[.pointer none, .slice none 0 0, .slice none 0 0, .int .i32 0, .int .u8 0, .bool false]), 6, 72) := by kernel_rfl
theorem infoCpl : (Try.prog.info? 48).map (fun i => (i.zero, i.size, i.bytes)) = some (some (.agg #[.slice none 0 0]), 1, 24) := by kernel_rfl
theorem infoRul : (Try.prog.info? 56).map (fun i => (i.zero, i.size, i.bytes)) = some (some (.agg #[.nilIface, .int .i32 0]), 2, 24) := by kernel_rfl
theorem fill_sub (D : Value) (T : TypeId) (p : Nat) (s : Nat) (hs : s = 3) : Instr.fill (fun i => some (i * s, s)) ((Array.range (1 * s)).map ((Value.agg #[.nilIface, .int .i32 0, .int .i32 0]).cells[· % (Value.agg #[.nilIface, .int .i32 0, .int .i32 0]).cells.size]!)) [(0, Value.agg #[.iface T (.pointer (some ⟨p, 0, none⟩)), .int .i32 0, .int .i32 0])] = some #[.iface T (.pointer (some ⟨p, 0, none⟩)), .int .i32 0, .int .i32 0] := by
  subst hs; kernel_rfl
theorem bs_sub (T : TypeId) (p : Nat) (w : World) : (Instr.buildSlice 78 1 #[(0, .agg #[.iface T (.pointer (some ⟨p, 0, none⟩)), .int .i32 0, .int .i32 0])]).run Try.prog w = .ok (.slice (some ⟨w.heap.size, 0, none⟩) 1 1) (w.alloc (.cells #[.iface T (.pointer (some ⟨p, 0, none⟩)), .int .i32 0, .int .i32 0] 94)) := by
  obtain ⟨i0, hi, hz0, hz1, hz2⟩ := info_parts infoSub
  exact run_buildSlice w 78 94 1 _ _ i0 _ Try.underlying78 hi hz0 (by rw [hz1]; decide) (by rw [hz1]; decide) (fill_sub .nilIface T p i0.size hz1)
theorem fill_cmp (a : Option Addr) (n cp : Nat) (s : Nat) (hs : s = 6) : Instr.fill (fun i => some (i * s, s)) ((Array.range (1 * s)).map ((Value.agg #[.pointer none, .slice none 0 0, .slice none 0 0, .int .i32 0, .int .u8 0, .bool false]).cells[· % (Value.agg #[.pointer none, .slice none 0 0, .slice none 0 0, .int .i32 0, .int .u8 0, .bool false]).cells.size]!)) [(0, Value.agg #[.pointer none, .slice a n cp, .slice none 0 0, .int .i32 0, .int .u8 0, .bool false])] = some #[.pointer none, .slice a n cp, .slice none 0 0, .int .i32 0, .int .u8 0, .bool false] := by
  subst hs; kernel_rfl
theorem bs_cmp (a : Option Addr) (n cp : Nat) (w : World) : (Instr.buildSlice 46 1 #[(0, .agg #[.pointer none, .slice a n cp, .slice none 0 0, .int .i32 0, .int .u8 0, .bool false])]).run Try.prog w = .ok (.slice (some ⟨w.heap.size, 0, none⟩) 1 1) (w.alloc (.cells #[.pointer none, .slice a n cp, .slice none 0 0, .int .i32 0, .int .u8 0, .bool false] 83)) := by
  obtain ⟨i0, hi, hz0, hz1, hz2⟩ := info_parts infoCmp
  exact run_buildSlice w 46 83 1 _ _ i0 _ Try.underlying46 hi hz0 (by rw [hz1]; decide) (by rw [hz1]; decide) (fill_cmp a n cp i0.size hz1)
theorem fill_cpl (a : Option Addr) (n cp : Nat) (s : Nat) (hs : s = 1) : Instr.fill (fun i => some (i * s, s)) ((Array.range (1 * s)).map ((Value.agg #[.slice none 0 0]).cells[· % (Value.agg #[.slice none 0 0]).cells.size]!)) [(0, Value.agg #[.slice a n cp])] = some #[.slice a n cp] := by
  subst hs; kernel_rfl
theorem bs_cpl (a : Option Addr) (n cp : Nat) (w : World) : (Instr.buildSlice 45 1 #[(0, .agg #[.slice a n cp])]).run Try.prog w = .ok (.slice (some ⟨w.heap.size, 0, none⟩) 1 1) (w.alloc (.cells #[.slice a n cp] 48)) := by
  obtain ⟨i0, hi, hz0, hz1, hz2⟩ := info_parts infoCpl
  exact run_buildSlice w 45 48 1 _ _ i0 _ Try.underlying45 hi hz0 (by rw [hz1]; decide) (by rw [hz1]; decide) (fill_cpl a n cp i0.size hz1)
theorem wpl_bs1 {P : Program} {ops : Array Oper} {rest : List Oper} {o : Oper} {a : Act} {w : World} {Q : Exit → Act → World → Prop} (hg : o.guard = none) (t : TypeId) (x : Operand) (ho : o.op = .buildSlice t 1 #[(0, x)])
    (v r : Value) (W : World) (hx : a.eval x = v) (hrun : (Instr.buildSlice t 1 #[(0, v)]).run P w = .ok r W) (h : wpList P ops Q rest (a.put o.dst r) W) : wpList P ops Q (o :: rest) a w := by
  refine wpList_plain hg fun _ hK => ?_
  unfold Oper.wp execOp
  simp only [ho, Sem.run_bind, List.map_toArray, List.map_cons, List.map_nil, hx, hrun, Result.andThen_ok]
  exact hK _ _ h
set_option maxRecDepth 100000 in
set_option maxHeartbeats 1000000 in
theorem plain_any (w : World) : Calls Try.prog 21 #[] w
    (fun e w' => ∃ q, e = .returned (.agg #[ifP q, .int .i32 0, .int .i32 0]) ∧ w'.rangeAt q 0 pcl ∧ w.heap.size ≤ q ∧ q < w'.heap.size ∧ Below w.heap.size w w') := by
  go_enter Try.func21, Try.ntmps21
  go_upto_region 1 with fail
  go_wp2_with fail
  obtain ⟨b, hb⟩ : ∃ b, b = w.heap.size := ⟨_, rfl⟩
  obtain ⟨q, hq⟩ : ∃ q, q = w.heap.size + 1 := ⟨_, rfl⟩
  rw [← hq, ← hb]
  have h1 : Below w.heap.size w (w.alloc (.cells #[ifP q, .int .i32 0, .int .i32 0] 94)) := (Below.refl _ _).alloc (Nat.le_refl _) _
  have r1 := rg_new w #[ifP q, .int .i32 0, .int .i32 0] 94
  have s1 : (w.alloc (.cells #[ifP q, .int .i32 0, .int .i32 0] 94)).heap.size = q := by rw [World.size_alloc, hq]
  rw [← hb] at r1
  generalize w.alloc (.cells #[ifP q, .int .i32 0, .int .i32 0] 94) = x1 at *
  have h2 : Below x1.heap.size x1 (x1.alloc (.cells pcl.toArray 108)) := (Below.refl _ _).alloc (Nat.le_refl _) _
  have r2 := rg_new x1 pcl.toArray 108
  have s2 : (x1.alloc (.cells pcl.toArray 108)).heap.size = q + 1 := by rw [World.size_alloc, s1]
  rw [s1] at r2
  have hr := rg_keep h2 r1
  change bodyPost _ _ _ _ _ (x1.alloc (.cells pcl.toArray 108))
  generalize x1.alloc _ = x2 at *
  obtain ⟨dS, hS, hS2⟩ := tySub
  exact bodyPost_ret (results_cell_mid rfl _ _ b 0 [ifP q, .int .i32 0, .int .i32 0] dS rfl hr hS hS2 szSub) rfl ⟨q, rfl, r2, by omega, by omega, by rw [hb]; exact h1.trans (h2.mono h1.size)⟩
set_option maxRecDepth 100000 in
set_option maxHeartbeats 1000000 in
theorem list_any (a : Option Addr) (n c k : Nat) (w : World) : Calls Try.prog 22 #[.int .u8 (k : Nat), .slice a n c] w
    (fun e w' => ∃ q, e = .returned (.agg #[ifL q, .int .i32 0, .int .i32 0]) ∧ w'.rangeAt q 0 (ilc (.slice a n c) (k : Nat)) ∧ w.heap.size ≤ q ∧ q < w'.heap.size ∧ Below w.heap.size w w') := by
  go_enter Try.func22, Try.ntmps22
  go_upto_region 1 with fail
  go_wp2_with fail
  obtain ⟨b, hb⟩ : ∃ b, b = w.heap.size := ⟨_, rfl⟩
  obtain ⟨q, hq⟩ : ∃ q, q = w.heap.size + 1 := ⟨_, rfl⟩
  rw [← hq, ← hb]
  have h1 : Below w.heap.size w (w.alloc (.cells #[ifL q, .int .i32 0, .int .i32 0] 94)) := (Below.refl _ _).alloc (Nat.le_refl _) _
  have r1 := rg_new w #[ifL q, .int .i32 0, .int .i32 0] 94
  have s1 : (w.alloc (.cells #[ifL q, .int .i32 0, .int .i32 0] 94)).heap.size = q := by rw [World.size_alloc, hq]
  rw [← hb] at r1
  generalize w.alloc (.cells #[ifL q, .int .i32 0, .int .i32 0] 94) = x1 at *
  have h2 : Below x1.heap.size x1 (x1.alloc (.cells (ilc (.slice a n c) (k : Nat)).toArray 102)) := (Below.refl _ _).alloc (Nat.le_refl _) _
  have r2 := rg_new x1 (ilc (.slice a n c) (k : Nat)).toArray 102
  have s2 : (x1.alloc (.cells (ilc (.slice a n c) (k : Nat)).toArray 102)).heap.size = q + 1 := by rw [World.size_alloc, s1]
  rw [s1] at r2
  have hr := rg_keep h2 r1
  change bodyPost _ _ _ _ _ (x1.alloc (.cells (ilc (.slice a n c) (k : Nat)).toArray 102))
  generalize x1.alloc _ = x2 at *
  obtain ⟨dS, hS, hS2⟩ := tySub
  exact bodyPost_ret (results_cell_mid rfl _ _ b 0 [ifL q, .int .i32 0, .int .i32 0] dS rfl hr hS hS2 szSub) rfl ⟨q, rfl, r2, by omega, by omega, by rw [hb]; exact h1.trans (h2.mono h1.size)⟩
/-- a rule's block, a rule's cells -/
def rsc (v : Value) : List Value := [v, .slice none 0 0, .int .i32 0]
def ruc (p : Nat) (s : Int) : List Value := [ifR p, .int .i32 s]
set_option maxRecDepth 100000 in
set_option maxHeartbeats 1000000 in
theorem rule_any (a : Option Addr) (n c : Nat) (s : Int) (w : World) : Calls Try.prog 12 #[.int .i32 s, .slice a n c] w
    (fun e w' => ∃ q, e = .returned (.agg #[ifR q, .int .i32 s]) ∧ w'.rangeAt q 0 (rsc (.slice a n c)) ∧ w.heap.size ≤ q ∧ q < w'.heap.size ∧ Below w.heap.size w w') := by
  go_enter Try.func12, Try.ntmps12
  go_upto_region 1 with fail
  go_wp2_with fail
  obtain ⟨b, hb⟩ : ∃ b, b = w.heap.size := ⟨_, rfl⟩
  obtain ⟨q, hq⟩ : ∃ q, q = w.heap.size + 1 := ⟨_, rfl⟩
  rw [← hq, ← hb]
  have h1 : Below w.heap.size w (w.alloc (.cells #[ifR q, .int .i32 s] 56)) := (Below.refl _ _).alloc (Nat.le_refl _) _
  have r1 := rg_new w #[ifR q, .int .i32 s] 56
  have s1 : (w.alloc (.cells #[ifR q, .int .i32 s] 56)).heap.size = q := by rw [World.size_alloc, hq]
  rw [← hb] at r1
  generalize w.alloc (.cells #[ifR q, .int .i32 s] 56) = x1 at *
  have h2 : Below x1.heap.size x1 (x1.alloc (.cells (rsc (.slice a n c)).toArray 66)) := (Below.refl _ _).alloc (Nat.le_refl _) _
  have r2 := rg_new x1 (rsc (.slice a n c)).toArray 66
  have s2 : (x1.alloc (.cells (rsc (.slice a n c)).toArray 66)).heap.size = q + 1 := by rw [World.size_alloc, s1]
  rw [s1] at r2
  have hr := rg_keep h2 r1
  change bodyPost _ _ _ _ _ (x1.alloc (.cells (rsc (.slice a n c)).toArray 66))
  generalize x1.alloc _ = x2 at *
  obtain ⟨dS, hS, hS2⟩ := tyRul
  exact bodyPost_ret (results_cell_mid rfl _ _ b 0 [ifR q, .int .i32 s] dS rfl hr hS hS2 szRul) rfl ⟨q, rfl, r2, by omega, by omega, by rw [hb]; exact h1.trans (h2.mono h1.size)⟩
end Go.Proofs.Ythokeojpmbdbmaa.Dr
