/-
  The small functions.
-/
import Derived.Test.YtbpnmiedomchpaaFa
namespace Go.Proofs.Ytbpnmiedomchpaa.Fg
open Go.ChangeShapes Go.WideShapes Go.ChangeAt Go.RowKit Rg
set_option linter.unusedVariables false
set_option linter.unusedSimpArgs false
theorem tySub : ∃ d, Try.prog.underlying 119 = some d ∧ d.isRow = true := ⟨_, Try.underlying119, rfl⟩
theorem szSub : (Try.prog.info? 119).map (·.size) = some 3 := by kernel_rfl
theorem tyCmp : ∃ d, Try.prog.underlying 37 = some d ∧ d.isRow = true := ⟨_, Try.underlying37, rfl⟩
theorem szCmp : (Try.prog.info? 37).map (·.size) = some 6 := by kernel_rfl
theorem tyCpl : ∃ d, Try.prog.underlying 40 = some d ∧ d.isRow = true := ⟨_, Try.underlying40, rfl⟩
theorem szCpl : (Try.prog.info? 40).map (·.size) = some 1 := by kernel_rfl
theorem infoSub : (Try.prog.info? 119).map (fun i => (i.zero, i.size, i.bytes)) = some (some (.agg #[.nilIface, .int .i32 0, .int .i32 0]), 3, 24) := by kernel_rfl
theorem infoCmp : (Try.prog.info? 37).map (fun i => (i.zero, i.size, i.bytes)) = some (some (.agg #[.pointer none, .slice none 0 0, .slice none 0 0, .int .i32 0, .int .u8 0, .bool false]), 6, 72) := by kernel_rfl
theorem infoCpl : (Try.prog.info? 40).map (fun i => (i.zero, i.size, i.bytes)) = some (some (.agg #[.slice none 0 0]), 1, 24) := by kernel_rfl
theorem infoLoc : (Try.prog.info? 33).map (fun i => (i.zero, i.size, i.bytes)) = some (some (.agg #[.int .i32 0]), 1, 4) := by kernel_rfl
theorem fill_sub (x : Value) (s : Nat) (hs : s = 3) : Instr.fill (fun i => some (i * s, s)) ((Array.range (1 * s)).map ((Value.agg #[.nilIface, .int .i32 0, .int .i32 0]).cells[· % (Value.agg #[.nilIface, .int .i32 0, .int .i32 0]).cells.size]!)) [(0, Value.agg #[x, .int .i32 0, .int .i32 0])] = some #[x, .int .i32 0, .int .i32 0] := by
  subst hs; kernel_rfl
theorem bs_sub (x : Value) (w : World) : (Instr.buildSlice 30 1 #[(0, .agg #[x, .int .i32 0, .int .i32 0])]).run Try.prog w = .ok (.slice (some ⟨w.heap.size, 0, none⟩) 1 1) (w.alloc (.cells #[x, .int .i32 0, .int .i32 0] 119)) := by
  obtain ⟨i0, hi, hz0, hz1, hz2⟩ := info_parts infoSub
  exact run_buildSlice w 30 119 1 _ _ i0 _ Try.underlying30 hi hz0 (by rw [hz1]; decide) (by rw [hz1]; decide) (fill_sub x i0.size hz1)
theorem fill_cmp (c : Cv) (s : Nat) (hs : s = 6) : Instr.fill (fun i => some (i * s, s)) ((Array.range (1 * s)).map ((Value.agg #[.pointer none, .slice none 0 0, .slice none 0 0, .int .i32 0, .int .u8 0, .bool false]).cells[· % (Value.agg #[.pointer none, .slice none 0 0, .slice none 0 0, .int .i32 0, .int .u8 0, .bool false]).cells.size]!)) [(0, Value.agg c.cells.toArray)] = some c.cells.toArray := by
  subst hs; obtain ⟨a, b, d, e, f⟩ := c; kernel_rfl
theorem bs_cmp (c : Cv) (w : World) : (Instr.buildSlice 38 1 #[(0, .agg c.cells.toArray)]).run Try.prog w = .ok (.slice (some ⟨w.heap.size, 0, none⟩) 1 1) (w.alloc (.cells c.cells.toArray 37)) := by
  obtain ⟨i0, hi, hz0, hz1, hz2⟩ := info_parts infoCmp
  exact run_buildSlice w 38 37 1 _ _ i0 _ Try.underlying38 hi hz0 (by rw [hz1]; decide) (by rw [hz1]; decide) (fill_cmp c i0.size hz1)
theorem fill_cpl (v : Value) (s : Nat) (hs : s = 1) : Instr.fill (fun i => some (i * s, s)) ((Array.range (1 * s)).map ((Value.agg #[.slice none 0 0]).cells[· % (Value.agg #[.slice none 0 0]).cells.size]!)) [(0, Value.agg #[v])] = some #[v] := by
  subst hs; kernel_rfl
theorem bs_cpl (v : Value) (w : World) : (Instr.buildSlice 27 1 #[(0, .agg #[v])]).run Try.prog w = .ok (.slice (some ⟨w.heap.size, 0, none⟩) 1 1) (w.alloc (.cells #[v] 40)) := by
  obtain ⟨i0, hi, hz0, hz1, hz2⟩ := info_parts infoCpl
  exact run_buildSlice w 27 40 1 _ _ i0 _ Try.underlying27 hi hz0 (by rw [hz1]; decide) (by rw [hz1]; decide) (fill_cpl v i0.size hz1)
theorem wpl_bs1 {P : Program} {ops : Array Oper} {rest : List Oper} {o : Oper} {a : Act} {w : World} {Q : Exit → Act → World → Prop} (hg : o.guard = none) (t : TypeId) (x : Operand) (ho : o.op = .buildSlice t 1 #[(0, x)])
    (v r : Value) (W : World) (hx : a.eval x = v) (hrun : (Instr.buildSlice t 1 #[(0, v)]).run P w = .ok r W) (h : wpList P ops Q rest (a.put o.dst r) W) : wpList P ops Q (o :: rest) a w := by
  refine wpList_plain hg fun _ hK => ?_
  unfold Oper.wp execOp
  simp only [ho, Sem.run_bind, List.map_toArray, List.map_cons, List.map_nil, hx, hrun, Result.andThen_ok]
  exact hK _ _ h
theorem cells_one (c : Cv) (h1 : c.tv.oneCell' = true) (h2 : c.vs.oneCell' = true) (h3 : c.vn.oneCell' = true) : c.cells.toArray.all (·.oneCell') = true := by
  refine all_oneCell_toArray (fun u hu => ?_)
  simp only [Cv.cells, List.mem_cons, List.not_mem_nil, or_false] at hu
  rcases hu with rfl | rfl | rfl | rfl | rfl | rfl
  · exact h1
  · exact h2
  · exact h3
  all_goals rfl
set_option maxRecDepth 100000 in
set_option maxHeartbeats 1000000 in
theorem comb_any (c : Nat) (hc : c < 256) (w : World) : Calls Try.prog 19 #[.int .u8 (c : Nat)] w (fun e w' => e = .returned (.int .u8 (combN c : Nat)) ∧ w = w') := by
  obtain ⟨m, hm⟩ : ∃ m, m = c % 4 := ⟨_, rfl⟩
  have hr : ((c : Nat) : Int) % 4 = (m : Nat) := by rw [hm]; simp
  have h4 : m < 4 := by rw [hm]; omega
  unfold combN
  rw [← hm]
  clear hm
  go_enter Try.func19, Try.ntmps19
  match m, h4 with
  | 0, _ => go_wp2_with fail; go_ret; exact ⟨rfl, rfl⟩
  | 1, _ => go_wp2_with fail; go_ret; exact ⟨rfl, rfl⟩
  | 2, _ => go_wp2_with fail; go_ret; exact ⟨rfl, rfl⟩
  | 3, _ => go_wp2_with fail; go_ret; exact ⟨rfl, rfl⟩
set_option maxRecDepth 100000 in
set_option maxHeartbeats 1000000 in
theorem kind_any (c : Nat) (hc : c < 256) (w : World) : Calls Try.prog 28 #[.int .u8 (c : Nat)] w (fun e w' => e = .returned (.int .u8 (kindN c : Nat)) ∧ w = w') := by
  obtain ⟨m, hm⟩ : ∃ m, m = c % 6 := ⟨_, rfl⟩
  have hr : ((c : Nat) : Int) % 6 = (m : Nat) := by rw [hm]; simp
  have h4 : m < 6 := by rw [hm]; omega
  unfold kindN
  rw [← hm]
  clear hm
  go_enter Try.func28, Try.ntmps28
  match m, h4 with
  | 0, _ => go_wp2_with fail; go_ret; exact ⟨rfl, rfl⟩
  | 1, _ => go_wp2_with fail; go_ret; exact ⟨rfl, rfl⟩
  | 2, _ => go_wp2_with fail; go_ret; exact ⟨rfl, rfl⟩
  | 3, _ => go_wp2_with fail; go_ret; exact ⟨rfl, rfl⟩
  | 4, _ => go_wp2_with fail; go_ret; exact ⟨rfl, rfl⟩
  | 5, _ => go_wp2_with fail; go_ret; exact ⟨rfl, rfl⟩
def lgK (k : Nat) : Bool := decide (k % 6 ≤ 1)
set_option maxRecDepth 100000 in
set_option maxHeartbeats 1000000 in
theorem lgk_any (c : Nat) (hc : c < 256) (w : World) : Calls Try.prog 16 #[.int .u8 (c : Nat)] w (fun e w' => e = .returned (.bool (lgK c)) ∧ w = w') := by
  obtain ⟨m, hm⟩ : ∃ m, m = c % 6 := ⟨_, rfl⟩
  have hr : ((c : Nat) : Int) % 6 = (m : Nat) := by rw [hm]; simp
  unfold lgK
  rw [← hm]
  clear hm
  go_enter Try.func16, Try.ntmps16
  by_cases h : m ≤ 1
  · have h2 : (m : Int) ≤ 1 := by omega
    rw [decide_eq_true h]
    go_wp2_with fail
    go_ret
    exact ⟨rfl, rfl⟩
  · have h2 : ¬ (m : Int) ≤ 1 := by omega
    rw [decide_eq_false h]
    go_wp2_with fail
    go_ret
    exact ⟨rfl, rfl⟩
def lgN (n : ByteArray) : Bool := (n.toList == [103, 108, 111, 98, 97, 108]) || (n.toList == [108, 111, 99, 97, 108])
set_option maxRecDepth 100000 in
set_option maxHeartbeats 1000000 in
theorem lgn_any (n : ByteArray) (w : World) : Calls Try.prog 17 #[.string n] w (fun e w' => e = .returned (.bool (lgN n)) ∧ w = w') := by
  unfold lgN
  cases h1 : (n.toList == ([103, 108, 111, 98, 97, 108] : List UInt8)) <;> cases h2 : (n.toList == ([108, 111, 99, 97, 108] : List UInt8))
  all_goals
    go_enter Try.func17, Try.ntmps17
    go_wp2_with fail
    go_ret
    exact ⟨rfl, rfl⟩
set_option maxRecDepth 100000 in
set_option maxHeartbeats 1000000 in
theorem letr_any (t : Nat) (ht : t < 256) (w : World) : Calls Try.prog 12 #[.int .u8 (t : Nat)] w (fun e w' => e = .returned (.string (letr t)) ∧ Below w.heap.size w w') := by
  obtain ⟨m, hm⟩ : ∃ m, m = (t + 255) % 256 % 26 := ⟨_, rfl⟩
  have hr : ((t : Nat) - 1 : Int) % 256 % 26 = (m : Nat) := by
    rw [hm]
    omega
  have hm26 : m < 26 := by rw [hm]; omega
  unfold letr
  rw [← hm]
  have hcv := run_convert_bytes_back (P := Try.prog) (w.alloc (.cells #[.int .u8 (97 + (m : Nat))] 5)) 22 9 5 ⟨w.heap.size, 0, none⟩ 1 [UInt8.ofNat (97 + m)] Try.underlying22 Try.underlying5 Try.underlying9 (fun j hj => by
    obtain rfl : j = 0 := by simpa using hj
    have h1 := rg_new w #[.int .u8 (97 + (m : Nat))] 5 0 _ rfl
    have e : (UInt8.ofNat (97 + m)).toNat = 97 + m := by rw [UInt8.toNat_ofNat']; omega
    simp only [List.getElem_cons_zero, e]
    exact h1)
  simp only [List.length_cons, List.length_nil, Nat.zero_add] at hcv
  clear hm
  go_enter Try.func12, Try.ntmps12
  go_wp2_with fail
  go_ret
  exact ⟨rfl, (Below.refl _ _).alloc (Nat.le_refl _) _⟩
set_option maxRecDepth 100000 in
set_option maxHeartbeats 1000000 in
theorem type_any (t : Nat) (ht : t < 256) (w : World) : Calls Try.prog 8 #[.int .u8 (t : Nat)] w (fun e w' => ∃ p, e = .returned (.pointer (some ⟨p, 0, none⟩)) ∧ w'.rangeAt p 0 (nsc (letr t)) ∧ w.heap.size ≤ p ∧ p < w'.heap.size ∧ Below w.heap.size w w') := by
  go_enter Try.func8, Try.ntmps8
  go_wp2_with fail
  refine (letr_any t ht w).mono ?_
  rintro e w1 ⟨rfl, hb⟩
  have h2 : Below w1.heap.size w1 (w1.alloc (.cells (nsc (letr t)).toArray 70)) := (Below.refl _ _).alloc (Nat.le_refl _) _
  have r2 := rg_new w1 (nsc (letr t)).toArray 70
  have s2 : (w1.alloc (.cells (nsc (letr t)).toArray 70)).heap.size = w1.heap.size + 1 := World.size_alloc _ _
  go_wp2_with fail
  go_ret
  exact ⟨w1.heap.size, rfl, r2, hb.size, by rw [World.size_alloc]; omega, hb.trans (h2.mono hb.size)⟩
set_option maxRecDepth 100000 in
set_option maxHeartbeats 1000000 in
theorem nest_any (n : Nat) (hn : n < 256) (w : World) : Calls Try.prog 20 #[.int .i64 (n : Nat)] w (fun e w' => ∃ a c, e = .returned (.slice a n c) ∧ LcV (fun b => w.heap.size ≤ b ∧ b < w'.heap.size) w' (.slice a n c) n ∧ Below w.heap.size w w') := by
  obtain ⟨i1, hi, hz0, hz1, hz2⟩ := info_parts infoLoc
  have hmk := run_make_rowN (P := Try.prog) 31 33 i1 _ (by kernel_rfl) hi hz0 .i64 .i64 n n (Nat.le_refl _) (by rw [hz2]; omega) (by omega) w
  rw [hz1] at hmk
  clear hi hz0 hz1 hz2
  go_enter Try.func20, Try.ntmps20
  by_cases h : n = 0
  · subst h
    clear hmk
    go_wp2_with fail
    go_ret
    exact ⟨none, 0, rfl, ⟨none, 0, rfl, fun i hi => absurd hi (Nat.not_lt_zero _)⟩, Below.refl _ _⟩
  · have h0 : ¬ (n : Int) = 0 := by omega
    have h1 : ((n : Int) == 0) = false := beq_eq_false_iff_ne.2 h0
    clear h
    go_wp2_with fail
    go_ret
    refine ⟨some ⟨w.heap.size, 0, none⟩, n, rfl, ⟨_, _, rfl, fun i hi => ⟨w.heap.size, 0, 0, rfl, ⟨Nat.le_refl _, by rw [World.size_alloc]; omega⟩, ?_⟩⟩, (Below.refl _ _).alloc (Nat.le_refl _) _⟩
    have h2 := rg_new w (madeCells (Value.agg #[.int .i32 0]).cells (n * 1)) 33 i (.int .i32 0) (by simp [madeCells, Value.cells, hi, Nat.mod_one])
    simpa [Value.cells] using h2
set_option maxRecDepth 100000 in
set_option maxHeartbeats 1000000 in
theorem bare_any (n : ByteArray) (w : World) : Calls Try.prog 30 #[.string n] w
    (fun e w' => ∃ q, e = .returned (.agg #[ifP q, .int .i32 0, .int .i32 0]) ∧ w'.rangeAt q 0 (pcl n) ∧ w.heap.size ≤ q ∧ q < w'.heap.size ∧ Below w.heap.size w w') := by
  go_enter Try.func30, Try.ntmps30
  go_upto_region 1 with fail
  go_wp2_with fail
  obtain ⟨b, hb⟩ : ∃ b, b = w.heap.size := ⟨_, rfl⟩
  obtain ⟨q, hq⟩ : ∃ q, q = w.heap.size + 1 := ⟨_, rfl⟩
  rw [← hq, ← hb]
  have h1 : Below w.heap.size w (w.alloc (.cells #[ifP q, .int .i32 0, .int .i32 0] 119)) := (Below.refl _ _).alloc (Nat.le_refl _) _
  have r1 := rg_new w #[ifP q, .int .i32 0, .int .i32 0] 119
  have s1 : (w.alloc (.cells #[ifP q, .int .i32 0, .int .i32 0] 119)).heap.size = q := by rw [World.size_alloc, hq]
  rw [← hb] at r1
  generalize w.alloc (.cells #[ifP q, .int .i32 0, .int .i32 0] 119) = x1 at *
  have h2 : Below x1.heap.size x1 (x1.alloc (.cells (pcl n).toArray 125)) := (Below.refl _ _).alloc (Nat.le_refl _) _
  have r2 := rg_new x1 (pcl n).toArray 125
  have s2 : (x1.alloc (.cells (pcl n).toArray 125)).heap.size = q + 1 := by rw [World.size_alloc, s1]
  rw [s1] at r2
  have hr := rg_keep h2 r1
  change bodyPost _ _ _ _ _ (x1.alloc (.cells (pcl n).toArray 125))
  generalize x1.alloc _ = x2 at *
  obtain ⟨dS, hS, hS2⟩ := tySub
  exact bodyPost_ret (results_cell_mid rfl _ _ b 0 [ifP q, .int .i32 0, .int .i32 0] dS rfl hr hS hS2 szSub) rfl ⟨q, rfl, r2, by omega, by omega, by rw [hb]; exact h1.trans (h2.mono h1.size)⟩
set_option maxRecDepth 100000 in
set_option maxHeartbeats 1000000 in
theorem wrap_any (a : Option Addr) (n c k : Nat) (w : World) : Calls Try.prog 27 #[.int .u8 (k : Nat), .slice a n c] w
    (fun e w' => ∃ q, e = .returned (.agg #[ifL q, .int .i32 0, .int .i32 0]) ∧ w'.rangeAt q 0 (ilc (.slice a n c) k) ∧ w.heap.size ≤ q ∧ q < w'.heap.size ∧ Below w.heap.size w w') := by
  go_enter Try.func27, Try.ntmps27
  go_upto_region 1 with fail
  go_wp2_with fail
  obtain ⟨b, hb⟩ : ∃ b, b = w.heap.size := ⟨_, rfl⟩
  obtain ⟨q, hq⟩ : ∃ q, q = w.heap.size + 1 := ⟨_, rfl⟩
  rw [← hq, ← hb]
  have h1 : Below w.heap.size w (w.alloc (.cells #[ifL q, .int .i32 0, .int .i32 0] 119)) := (Below.refl _ _).alloc (Nat.le_refl _) _
  have r1 := rg_new w #[ifL q, .int .i32 0, .int .i32 0] 119
  have s1 : (w.alloc (.cells #[ifL q, .int .i32 0, .int .i32 0] 119)).heap.size = q := by rw [World.size_alloc, hq]
  rw [← hb] at r1
  generalize w.alloc (.cells #[ifL q, .int .i32 0, .int .i32 0] 119) = x1 at *
  have h2 : Below x1.heap.size x1 (x1.alloc (.cells (ilc (.slice a n c) k).toArray 131)) := (Below.refl _ _).alloc (Nat.le_refl _) _
  have r2 := rg_new x1 (ilc (.slice a n c) k).toArray 131
  have s2 : (x1.alloc (.cells (ilc (.slice a n c) k).toArray 131)).heap.size = q + 1 := by rw [World.size_alloc, s1]
  rw [s1] at r2
  have hr := rg_keep h2 r1
  change bodyPost _ _ _ _ _ (x1.alloc (.cells (ilc (.slice a n c) k).toArray 131))
  generalize x1.alloc _ = x2 at *
  obtain ⟨dS, hS, hS2⟩ := tySub
  exact bodyPost_ret (results_cell_mid rfl _ _ b 0 [ifL q, .int .i32 0, .int .i32 0] dS rfl hr hS hS2 szSub) rfl ⟨q, rfl, r2, by omega, by omega, by rw [hb]; exact h1.trans (h2.mono h1.size)⟩
end Go.Proofs.Ytbpnmiedomchpaa.Fg
