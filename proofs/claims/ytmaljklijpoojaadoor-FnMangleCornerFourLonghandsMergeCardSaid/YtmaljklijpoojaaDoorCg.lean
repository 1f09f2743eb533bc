/-
  Rules; ZZdeclOf, zzKept, zzGone, zzDeclIs, zzMinLoc.
-/
import Derived.Test.YtmaljklijpoojaaDoorCf
import Derived.Deep.QuietTactic
import Derived.DeepKeys
import Derived.LaidEqlPtr
namespace Go.Proofs.YtmaljklijpoojaaDoor.Co
open Go.ChangeShapes Go.WideShapes Go.ChangeAt Go.RowKit Rg Quad
set_option linter.unusedVariables false
set_option linter.unusedSimpArgs false
def dv : Option Nat → Value
  | none => .nilIface
  | some d => .iface 25 (.pointer (some ⟨d, 0, none⟩))
def pv : Option Nat → Value
  | none => .pointer none
  | some d => .pointer (some ⟨d, 0, none⟩)
theorem ta_some (D : Value) (w : World) : (Instr.typeAssert (.iface 25 D) 47 25 true).run Tryd.prog w = .ok (.tuple #[D, .bool true]) w := by kernel_rfl
theorem ta_nil (w : World) : (Instr.typeAssert .nilIface 47 25 true).run Tryd.prog w = .ok (.tuple #[.pointer none, .bool false]) w := by kernel_rfl
set_option maxRecDepth 100000 in
set_option maxHeartbeats 1000000 in
theorem do_any (x : Option Nat) (l : Int) (w : World) : Calls Tryd.prog 10 #[.agg #[dv x, .int .i32 l]] w fun e w' => e = .returned (pv x) ∧ Below w.heap.size w w' := by
  have h1 := ta_some
  have h2 := ta_nil
  cases x
  all_goals
    unfold dv pv
    go_enter Tryd.func10, Tryd.ntmps10
    go_wp2_with fail
    go_ret
    exact ⟨rfl, (Below.refl _ _).alloc (Nat.le_refl _) _⟩
/-- a rule: its declaration and place -/
abbrev RU := Option Nat × Int
def ruR (x : RU) : List Value := [dv x.1, .int .i32 x.2]
def RR (w : World) (r n : Nat) (R : Nat → RU) : Prop := ∀ j, j < n → w.rangeAt r (j * 2) (ruR (R j))
theorem RR.keep {w w' : World} {r n : Nat} {R : Nat → RU} (h : RR w r n R) (hb : Below w.heap.size w w') : RR w' r n R := fun i hi => rg_keep hb (h i hi)
theorem RR.cells {w : World} {r n j : Nat} {R : Nat → RU} (h : RR w r n R) (hj : j < n) : w.cell? ⟨r, j * 2, none⟩ = some (dv (R j).1) ∧ w.cell? ⟨r, j * 2 + 1, none⟩ = some (.int .i32 (R j).2) := ⟨h j hj 0 _ rfl, h j hj 1 _ rfl⟩
theorem tyRu : ∃ d, Tryd.prog.underlying 49 = some d ∧ d.isRow = true := ⟨_, Tryd.underlying49, rfl⟩
theorem szRu : (Tryd.prog.info? 49).map (·.size) = some 2 := by kernel_rfl
set_option maxRecDepth 100000 in
set_option maxHeartbeats 1000000 in
theorem zg_any (r n c j : Nat) (R : Nat → RU) (w : World) (h : RR w r n R) (hj : j < n) (hr : R j = (none, 0)) : Calls Tryd.prog 9 #[.slice (some ⟨r, 0, none⟩) n c, .int .i64 (j : Int)] w (TrueB w) := by
  obtain ⟨c0, c1⟩ := h.cells hj
  rw [hr] at c0 c1
  unfold dv at c0
  dsimp only at c0 c1
  have H := Lib.hid (And.intro c0 c1)
  have q0 : (0 : Int) ≤ j := by omega
  have q1 : (j : Int) < n := by omega
  clear h hr
  go_enter Tryd.func9, Tryd.ntmps9
  go_wp2_with fail
  refine (do_any none 0 w).mono ?_
  rintro e w1 ⟨rfl, hb⟩
  unfold pv
  have d1 := later hb c1
  have HB := Lib.hid hb
  clear hb c0 c1
  go_wp2_with fail
  go_ret
  exact ⟨rfl, HB.out⟩
theorem und_i32 : Tryd.prog.underlying 21 = some (.int .i32) := by kernel_rfl
theorem part_l0 (a : Int) (w : World) : (part 21 #[.int .i32 a] 0).run Tryd.prog w = .ok (.int .i32 a) w := by kernel_rfl
theorem part_r0 (a b : Int) (w : World) : (part 33 #[.int .i32 a, .int .i32 b] 0).run Tryd.prog w = .ok (.agg #[.int .i32 a]) w := by kernel_rfl
theorem part_r1 (a b : Int) (w : World) : (part 21 #[.int .i32 a, .int .i32 b] 1).run Tryd.prog w = .ok (.int .i32 b) w := by kernel_rfl
theorem fld_l0 : ((Tryd.prog.fieldsOf 33).toList.map fun f => (f.type, f.offset, (f.name != "_"))) = [(21, 0, true)] := by kernel_rfl
theorem fld_r0 : ((Tryd.prog.fieldsOf 42).toList.map fun f => (f.type, f.offset, (f.name != "_"))) = [(33, 0, true), (21, 1, true)] := by kernel_rfl
theorem fld_l : ∃ f0 : Field, (Tryd.prog.fieldsOf 33).toList = [f0] ∧ f0.type = 21 ∧ f0.offset = 0 ∧ (f0.name != "_") = true := by
  have h := fld_l0
  generalize (Tryd.prog.fieldsOf 33).toList = l at h
  rcases l with _ | ⟨f0, _ | ⟨f1, t⟩⟩
  · simp at h
  · simp only [List.map_cons, List.map_nil, List.cons.injEq, Prod.mk.injEq, and_true] at h; exact ⟨f0, rfl, h⟩
  · simp at h
theorem fld_r : ∃ f0 f1 : Field, (Tryd.prog.fieldsOf 42).toList = [f0, f1] ∧ (f0.type = 33 ∧ f0.offset = 0 ∧ (f0.name != "_") = true) ∧ (f1.type = 21 ∧ f1.offset = 1 ∧ (f1.name != "_") = true) := by
  have h := fld_r0
  generalize (Tryd.prog.fieldsOf 42).toList = l at h
  rcases l with _ | ⟨f0, _ | ⟨f1, _ | ⟨f2, t⟩⟩⟩
  · simp at h
  · simp at h
  · simp only [List.map_cons, List.map_nil, List.cons.injEq, Prod.mk.injEq, and_true] at h; exact ⟨f0, f1, rfl, h.1, h.2⟩
  · simp at h
theorem eq_loc (d : Nat) (a : Int) (w : World) : (Op.equalIn (d + 1 + 1) 33 (.agg #[.int .i32 a]) (.agg #[.int .i32 a])).run Tryd.prog w = .ok true w := by
  have hS : Tryd.prog.underlying 33 = some (.struct (Tryd.prog.fieldsOf 33)) := by kernel_rfl
  have hp : Tryd.prog.stoodInHeld 33 = false := by kernel_rfl
  obtain ⟨f0, hf, h1, h2, h3⟩ := fld_l
  have h3' := bne_iff_ne.1 h3
  rw [run_equalIn_agg w (d + 1) 33 _ _ hS hp, hf]
  simp only [Op.eqFields, h1, h2, if_pos h3', Sem.run_bind, part_l0, Result.andThen_ok, run_equalIn_int (P := Tryd.prog) w d 21 .i32 .i32 a a und_i32, beq_self_eq_true, Bool.not_true, Bool.false_eq_true, if_false, Sem.run_pure]
theorem eq_rng (a b : Int) (w : World) : (binOp .eql 42 (.agg #[.int .i32 a, .int .i32 b]) (.agg #[.int .i32 a, .int .i32 b])).run Tryd.prog w = .ok (.bool true) w := by
  have hS : Tryd.prog.underlying 42 = some (.struct (Tryd.prog.fieldsOf 42)) := by kernel_rfl
  have hp : Tryd.prog.stoodInHeld 42 = false := by kernel_rfl
  obtain ⟨f0, f1, hf, ⟨h1, h2, h3⟩, ⟨h4, h5, h6⟩⟩ := fld_r
  have he : (Op.equalIn 10000 42 (.agg #[.int .i32 a, .int .i32 b]) (.agg #[.int .i32 a, .int .i32 b])).run Tryd.prog w = .ok true w := by
    obtain ⟨d, hd⟩ : ∃ d, 10000 = d + 1 + 1 + 1 := ⟨9997, rfl⟩
    rw [hd, run_equalIn_agg w (d + 1 + 1) 42 _ _ hS hp, hf]
    have h3' := bne_iff_ne.1 h3
    have h6' := bne_iff_ne.1 h6
    simp only [Op.eqFields, h1, h2, h4, h5, if_pos h3', if_pos h6', Sem.run_bind, part_r0, part_r1, eq_loc, Result.andThen_ok, run_equalIn_int (P := Tryd.prog) w (d + 1) 21 .i32 .i32 b b und_i32, beq_self_eq_true, Bool.not_true, Bool.false_eq_true, if_false, Sem.run_pure]
  rw [run_eql_struct, he]
  rfl
theorem infoDe : ∃ j, Tryd.prog.info? 45 = some j ∧ j.size = 6 := by
  have h : (Tryd.prog.info? 45).map (·.size) = some 6 := by kernel_rfl
  cases hx : Tryd.prog.info? 45 with
  | none => rw [hx] at h; simp at h
  | some j => rw [hx] at h; exact ⟨j, rfl, by simpa using h⟩
theorem pe_same (d : Nat) (w : World) : (binOp .eql 25 (.pointer (some ⟨d, 0, none⟩)) (.pointer (some ⟨d, 0, none⟩))).run Tryd.prog w = .ok (.bool true) w := by
  obtain ⟨j, hj, -⟩ := infoDe
  exact run_eql_ptr_same w _ Tryd.underlying25 hj
theorem pe_other {d d' : Nat} {w : World} (hne : d ≠ d') {c c' : Array Value} {t t' : TypeId} (h : Bk w d t c) (h' : Bk w d' t' c') : (binOp .eql 25 (.pointer (some ⟨d, 0, none⟩)) (.pointer (some ⟨d', 0, none⟩))).run Tryd.prog w = .ok (.bool false) w := by
  obtain ⟨j, hj, hz⟩ := infoDe
  exact run_eql_ptr_other w Tryd.underlying25 hj (by rw [hz]; decide) (fun e => hne (by injection e)) h h'
def KP (r j ab ao gd d : Nat) (l : Int) (w0 w : World) : Prop := w.cell? ⟨r, j * 2, none⟩ = some (.iface 25 (.pointer (some ⟨d, 0, none⟩))) ∧ w.cell? ⟨r, j * 2 + 1, none⟩ = some (.int .i32 l) ∧ w.cell? ⟨gd, j, none⟩ = some (.pointer (some ⟨d, 0, none⟩)) ∧ w.cell? ⟨ab, ao + j, none⟩ = some (.int .i32 l) ∧ w0.heap.size ≤ w.heap.size ∧ Below w0.heap.size w0 w
theorem KP.keep {r j ab ao gd d : Nat} {l : Int} {w0 w w' : World} (h : KP r j ab ao gd d l w0 w) (hb : Below w.heap.size w w') : KP r j ab ao gd d l w0 w' :=
  ⟨later hb h.1, later hb h.2.1, later hb h.2.2.1, later hb h.2.2.2.1, Nat.le_trans h.2.2.2.2.1 hb.size, h.2.2.2.2.2.trans (hb.mono h.2.2.2.2.1)⟩
set_option maxRecDepth 100000 in
set_option maxHeartbeats 1000000 in
theorem zk_any (r n c j gd c2 d : Nat) (al : Option Addr) (nl cl : Nat) (lc : Nat → Int) (R : Nat → RU) (w : World) (h : RR w r n R) (hj : j < n) (hr : R j = (some d, lc j)) (hd : w.cell? ⟨gd, j, none⟩ = some (.pointer (some ⟨d, 0, none⟩))) (hl : Sl w al nl (fun i => .int .i32 (lc i))) (hn : n = nl) :
    Calls Tryd.prog 7 #[.slice (some ⟨r, 0, none⟩) n c, .slice (some ⟨gd, 0, none⟩) n c2, .slice al nl cl, .int .i64 (j : Int)] w (TrueB w) := by
  subst hn
  obtain ⟨c0, c1⟩ := h.cells hj
  rw [hr] at c0 c1
  unfold dv at c0
  dsimp only at c0 c1
  obtain ⟨ab, ao, rfl, e0⟩ := hl j hj
  have q0 : (0 : Int) ≤ j := by omega
  have q1 : (j : Int) < n := by omega
  clear h hr hl
  dsimp only at e0
  generalize lc j = l at *
  have HK := Lib.hid (show KP r j ab ao gd d l w w from ⟨c0, c1, hd, e0, Nat.le_refl _, Below.refl _ _⟩)
  clear c0 c1 hd e0
  have hdo := fun W => do_any (some d) l W
  unfold dv pv at hdo
  have HDO := Lib.hid hdo
  have hpe := pe_same d
  clear hdo
  go_enter Tryd.func7, Tryd.ntmps7
  go_upto_region 1 with fail
  go_region_held3 (fun w' => w'.cell? ⟨r, j * 2, none⟩ = some (.iface 25 (.pointer (some ⟨d, 0, none⟩))) ∧ w'.cell? ⟨r, j * 2 + 1, none⟩ = some (.int .i32 l) ∧ w'.cell? ⟨gd, j, none⟩ = some (.pointer (some ⟨d, 0, none⟩)) ∧ w'.cell? ⟨ab, ao + j, none⟩ = some (.int .i32 l) ∧ w.heap.size ≤ w'.heap.size ∧ Below w.heap.size w w')
    (first | exact HK.out.keep (Below.refl _ _).drew | (refine KP.keep ?_ ‹Below _ _ _›; assumption))
    (first | (go_at_call 10; refine (HDO.out _).mono ?_; rintro e w' ⟨rfl, hb⟩))
  rename_i hH
  have HB := Lib.hid hH.2.2.2.2.2
  clear hH HK
  go_wp2_with fail
  all_goals go_ret
  all_goals exact ⟨rfl, HB.out⟩
/-- a declaration's cells -/
def dcR (v : Value) (key : Int) (imp : Bool) : List Value := [.string ⟨#[98, 111, 114, 100, 101, 114, 45, 114, 97, 100, 105, 117, 115]⟩, v, .int .i32 key, .int .i32 3, .int .u16 66, .bool imp]
set_option maxRecDepth 100000 in
set_option maxHeartbeats 1000000 in
theorem ds_any (d : Nat) (v : Value) (key : Int) (imp : Bool) (w : World) (h : w.rangeAt d 0 (dcR v key imp)) : Calls Tryd.prog 12 #[.pointer (some ⟨d, 0, none⟩), .agg #[.int .i32 key, .int .i32 3], .bool imp] w (TrueB w) := by
  have c0 := h 0 _ rfl
  have c2 := h 2 _ rfl
  have c3 := h 3 _ rfl
  have c4 := h 4 _ rfl
  have c5 := h 5 _ rfl
  simp only [Nat.zero_add] at c0 c2 c3 c4 c5
  have e0 := alloc_cell c0
  have e2 := alloc_cell c2
  have e3 := alloc_cell c3
  have e4 := alloc_cell c4
  have e5 := alloc_cell c5
  have hq := eq_rng key 13
  clear h c0 c2 c3 c4 c5
  cases imp
  all_goals
    go_enter Tryd.func12, Tryd.ntmps12
    go_wp2_with fail
    go_quiet (fail)
    go_wp2_with fail
    go_ret
    exact ⟨rfl, below_drewN ((Below.refl _ _).alloc (Nat.le_refl _) _) _⟩
end Go.Proofs.YtmaljklijpoojaaDoor.Co
