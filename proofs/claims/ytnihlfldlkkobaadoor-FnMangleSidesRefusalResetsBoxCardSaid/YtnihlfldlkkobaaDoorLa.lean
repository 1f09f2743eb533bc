/-
  A box of four equal sides; rules; what compactRules keeps.
-/
import Derived.Test.YtnihlfldlkkobaaDoorBa
namespace Go.Proofs.YtnihlfldlkkobaaDoor.Bx
open Go.ChangeShapes Go.WideShapes Go.ChangeAt Go.RowKit Rg Quad
set_option linter.unusedVariables false
set_option linter.unusedSimpArgs false
def dv : Option Nat → Value
  | none => .nilIface
  | some d => .iface 44 (.pointer (some ⟨d, 0, none⟩))
def pv : Option Nat → Value
  | none => .pointer none
  | some d => .pointer (some ⟨d, 0, none⟩)
abbrev RU := Option Nat × Int
def ruR (x : RU) : List Value := [dv x.1, .int .i32 x.2]
def RR (w : World) (r n : Nat) (R : Nat → RU) : Prop := ∀ j, j < n → w.rangeAt r (j * 2) (ruR (R j))
theorem RR.keep {w w' : World} {r n : Nat} {R : Nat → RU} (h : RR w r n R) (hb : Below w.heap.size w w') : RR w' r n R := fun i hi => rg_keep hb (h i hi)
theorem RR.cells {w : World} {r n j : Nat} {R : Nat → RU} (h : RR w r n R) (hj : j < n) : w.cell? ⟨r, j * 2, none⟩ = some (dv (R j).1) ∧ w.cell? ⟨r, j * 2 + 1, none⟩ = some (.int .i32 (R j).2) := ⟨h j hj 0 _ rfl, h j hj 1 _ rfl⟩
theorem RR.other {w : World} {r n : Nat} {R : Nat → RU} (h : RR w r n R) {p : Addr} (hp : p.block ≠ r) (u : Value) : RR (w.setCell p u) r n R := fun i hi => rg_other (h i hi) hp
def upR (R : Nat → RU) (i : Nat) (x : RU) (j : Nat) : RU := if j = i then x else R j
theorem RR.put {w : World} {r n : Nat} {R : Nat → RU} (h : RR w r n R) (ht : w.there r 0 (n * 2)) {i : Nat} (hi : i < n) (x : RU) : RR (w.setCells r (i * 2) (ruR x)) r n (upR R i x) := fun j hj => by
  unfold upR
  by_cases e : j = i
  · subst e
    rw [if_pos rfl]
    refine World.rangeAt_setCells_same _ _ _ _ ?_
    have := th_sub (o' := j * 2) (m := 2) ht (by omega) (by omega)
    exact this
  · rw [if_neg e]
    refine World.rangeAt_setCells_apart (h j hj) _ _ _ (.inr ?_)
    simp only [ruR, List.length_cons, List.length_nil]
    omega
theorem upR_upR (R : Nat → RU) (i : Nat) (x y : RU) : upR (upR R i x) i y = upR R i y := by
  funext j
  unfold upR
  split <;> rfl
theorem RR.grown {w w' : World} {r n k : Nat} {R : Nat → RU} (h : RR w r n R) (hg : w.grownBy w' (some k)) (hne : r ≠ k) : RR w' r n R := fun j hj i u hu => hg.cell (h j hj i u hu) (fun e => hne (by injection e))
theorem tyRu : ∃ d, Tryd.prog.underlying 52 = some d ∧ d.isRow = true := ⟨_, Tryd.underlying52, rfl⟩
theorem szRu : (Tryd.prog.info? 52).map (·.size) = some 2 := by kernel_rfl
theorem ruZ_one : (#[Value.nilIface, .int .i32 0].all (·.oneCell')) = true := by simp [Value.oneCell']
theorem tySd : ∃ d, Tryd.prog.underlying 67 = some d ∧ d.isRow = true := ⟨_, Tryd.underlying67, rfl⟩
theorem szSd : (Tryd.prog.info? 67).map (·.size) = some 11 := by kernel_rfl
theorem tyQs : ∃ d, Tryd.prog.underlying 68 = some d ∧ d.isRow = true := ⟨_, Tryd.underlying68, rfl⟩
theorem szQs : (Tryd.prog.info? 68).map (·.size) = some 44 := by kernel_rfl
theorem sdG_one (t : ByteArray) (l k st : Int) (i : Nat) (s : Bool) : (sdG t l k st i s).toArray.all (·.oneCell') = true := by simp [sdG, Value.oneCell']
/-- a side of '1%' out of rule x -/
def s1 (x : Nat) : SD := ⟨tT 0, 0, tK 0, 0, x, false⟩
def qs (x : Nat) : List Value := sdR (s1 x) ++ (sdR (s1 x) ++ (sdR (s1 x) ++ sdR (s1 x)))
theorem qs_len (x : Nat) : (qs x).length = 44 := rfl
theorem BB.row {kt : ByteArray} {aa imp : Bool} {key : Int} {x b : Nat} {w : World} (h : BB kt aa imp key (fun _ => s1 x) b w) : w.rangeAt b 1 (qs x) := by
  have c0 := h.2.1 0 (by omega)
  have c1 := h.2.1 1 (by omega)
  have c2 := h.2.1 2 (by omega)
  have c3 := h.2.1 3 (by omega)
  simp only [Nat.reduceMul, Nat.zero_mul, Nat.reduceAdd] at c0 c1 c2 c3
  unfold qs
  refine rg_append c0 (rg_append ?_ (rg_append ?_ ?_))
  · rw [sdR_len]; exact c1
  · rw [sdR_len]; exact c2
  · rw [sdR_len]; exact c3
theorem BB.sets {kt : ByteArray} {aa imp : Bool} {key : Int} {σ : Nat → SD} {b : Nat} {w : World} (h : BB kt aa imp key σ b w) {g : Nat} (hg : b ≠ g) (o : Nat) (vs : List Value) : BB kt aa imp key σ b (w.setCells g o vs) := by
  obtain ⟨h1, h2, h3, h4, h5, h6⟩ := h
  exact ⟨cell_sets h1 (.inl hg), fun i hi => World.rangeAt_setCells_apart (h2 i hi) _ _ _ (.inl hg), cell_sets h3 (.inl hg), cell_sets h4 (.inl hg), cell_sets h5 (.inl hg), World.there_setCells h6 _ _ _⟩
theorem wpl_index {P : Program} {ops : Array Oper} {rest : List Oper} {o : Oper} {a : Act} {w : World} {Q : Exit → Act → World → Prop} (hg : o.guard = none) (t : TypeId) (x y : Operand) (ho : o.op = .index t x y) (vx vy r : Value) (h0 : a.eval x = vx) (h1 : a.eval y = vy) (hrun : (Instr.index t vx vy).run P w = .ok r w) (h : wpList P ops Q rest (a.put o.dst r) w) : wpList P ops Q (o :: rest) a w := by
  refine wpList_plain hg fun _ hK => ?_
  unfold Oper.wp execOp
  simp only [ho, Sem.run_bind, h0, h1, hrun, Result.andThen_ok]
  exact hK _ _ h
theorem ixs0 (t : ByteArray) (k : Int) (x : Nat) (W : World) : (Instr.index 68 (.agg (sdG t 0 k 0 x false ++ (sdG t 0 k 0 x false ++ (sdG t 0 k 0 x false ++ sdG t 0 k 0 x false))).toArray) (.int .i64 0)).run Tryd.prog W = .ok (.agg (sdG t 0 k 0 x false).toArray) W := by kernel_rfl
theorem ixs1 (t : ByteArray) (k : Int) (x : Nat) (W : World) : (Instr.index 68 (.agg (sdG t 0 k 0 x false ++ (sdG t 0 k 0 x false ++ (sdG t 0 k 0 x false ++ sdG t 0 k 0 x false))).toArray) (.int .i64 1)).run Tryd.prog W = .ok (.agg (sdG t 0 k 0 x false).toArray) W := by kernel_rfl
theorem ixs2 (t : ByteArray) (k : Int) (x : Nat) (W : World) : (Instr.index 68 (.agg (sdG t 0 k 0 x false ++ (sdG t 0 k 0 x false ++ (sdG t 0 k 0 x false ++ sdG t 0 k 0 x false))).toArray) (.int .i64 2)).run Tryd.prog W = .ok (.agg (sdG t 0 k 0 x false).toArray) W := by kernel_rfl
theorem ixs3 (t : ByteArray) (k : Int) (x : Nat) (W : World) : (Instr.index 68 (.agg (sdG t 0 k 0 x false ++ (sdG t 0 k 0 x false ++ (sdG t 0 k 0 x false ++ sdG t 0 k 0 x false))).toArray) (.int .i64 3)).run Tryd.prog W = .ok (.agg (sdG t 0 k 0 x false).toArray) W := by kernel_rfl
theorem ixs (x j : Nat) (hj : j < 4) (W : World) : (Instr.index 68 (.agg (qs x).toArray) (.int .i64 (j : Int))).run Tryd.prog W = .ok (.agg (sdR (s1 x)).toArray) W := by
  have c : j = 0 ∨ j = 1 ∨ j = 2 ∨ j = 3 := by omega
  rcases c with rfl | rfl | rfl | rfl
  · exact ixs0 _ _ x W
  · exact ixs1 _ _ x W
  · exact ixs2 _ _ x W
  · exact ixs3 _ _ x W
set_option maxRecDepth 100000 in
set_option maxHeartbeats 1000000 in
theorem isw (w : World) : Calls Tryd.prog 29 #[.agg #[.string ⟨#[]⟩, .int .u8 0], .agg #[.string ⟨#[]⟩, .int .u8 0]] w fun e w' => e = .returned (.bool true) ∧ Below w.heap.size w w' := by
  go_enter Tryd.func29, Tryd.ntmps29
  go_wp2_with fail
  go_ret
  exact ⟨rfl, ((Below.refl _ _).alloc (Nat.le_refl _) _).alloc (by simp) _⟩
/-- behind the tests -/
def SB (kt : ByteArray) (aa imp : Bool) (key : Int) (x b : Nat) (a2 a3 : Int) (w0 w : World) : Prop := Bk w w0.heap.size 46 #[.int .i32 a2, .int .i32 a3] ∧ Below w0.heap.size w0 w ∧ BB kt aa imp key (fun _ => s1 x) b w
theorem SB.keep {kt : ByteArray} {aa imp : Bool} {key : Int} {x b : Nat} {a2 a3 : Int} {w0 w w' : World} (h : SB kt aa imp key x b a2 a3 w0 w) (hb : Below w.heap.size w w') : SB kt aa imp key x b a2 a3 w0 w' := ⟨h.1.keep hb, h.2.1.trans (hb.mono (Nat.le_of_lt h.1.lt)), h.2.2.keep hb⟩
def K4 (g b : Nat) (w0 w : World) : Prop := w.cell? ⟨g, 7, none⟩ = some (.string ⟨#[]⟩) ∧ w.cell? ⟨g, 8, none⟩ = some (.int .u8 0) ∧ w.cell? ⟨b, 8, none⟩ = some (.string ⟨#[]⟩) ∧ w.cell? ⟨b, 9, none⟩ = some (.int .u8 0) ∧ w0.heap.size ≤ w.heap.size ∧ Below w0.heap.size w0 w
theorem K4.keep {g b : Nat} {w0 w w' : World} (h : K4 g b w0 w) (hb : Below w.heap.size w w') : K4 g b w0 w' :=
  ⟨later hb h.1, later hb h.2.1, later hb h.2.2.1, later hb h.2.2.2.1, Nat.le_trans h.2.2.2.2.1 hb.size, h.2.2.2.2.2.trans (hb.mono h.2.2.2.2.1)⟩
theorem below_of {a b c : World} (h : Below a.heap.size b c) (e1 : b.os = a.os) (e2 : b.tape = a.tape) (e3 : b.output = a.output) (e4 : b.heap = a.heap) : Below a.heap.size a c :=
  ⟨h.os.trans e1, h.tape.trans e2, h.output.trans e3, by have := h.size; rwa [e4] at this, fun k hk => (h.block k hk).trans (by rw [e4])⟩
theorem cells7 {w : World} {g o : Nat} {x : TY} (h : w.rangeAt g o (tyR x)) : w.cell? ⟨g, o, none⟩ = some (.pointer none) ∧ w.cell? ⟨g, o + 1, none⟩ = some (.string (tT x.1)) ∧ w.cell? ⟨g, o + 2, none⟩ = some (.int .i32 0) ∧ w.cell? ⟨g, o + 3, none⟩ = some (.int .u32 0) ∧
    w.cell? ⟨g, o + 4, none⟩ = some (.int .u16 0) ∧ w.cell? ⟨g, o + 5, none⟩ = some (.int .u8 (tK x.1)) ∧ w.cell? ⟨g, o + 6, none⟩ = some (.int .u8 x.2) :=
  ⟨h 0 _ rfl, h 1 _ rfl, h 2 _ rfl, h 3 _ rfl, h 4 _ rfl, h 5 _ rfl, h 6 _ rfl⟩
theorem sd_tok (x : Nat) : sdR (s1 x) = tyR (0, 0) ++ [.string ⟨#[]⟩, .int .u8 0, .int .u32 (x : Int), .bool false] := rfl
/-- the state of the last loop -/
def S5 (kt : ByteArray) (aa imp : Bool) (key : Int) (x b : Nat) (a2 a3 : Int) (r n g : Nat) (mb : Nat) (R : Nat → RU) (m : Int) (w0 w : World) : Prop :=
  Bk w w0.heap.size 46 #[.int .i32 a2, .int .i32 a3] ∧ w0.grownBy w (some r) ∧ BB kt aa imp key (fun _ => s1 x) b w ∧ RR w r n R ∧ w.there r 0 (n * 2) ∧ Bk w mb 39 #[.int .i32 m]
section
variable {kt : ByteArray} {aa imp : Bool} {key : Int} {x b : Nat} {a2 a3 : Int} {r n g : Nat} {mb : Nat} {R : Nat → RU} {m : Int} {w0 w w' : World}
theorem S5.keep (h : S5 kt aa imp key x b a2 a3 r n g mb R m w0 w) (hb : Below w.heap.size w w') : S5 kt aa imp key x b a2 a3 r n g mb R m w0 w' := by
  obtain ⟨h1, h2, h3, h4, h5, h7⟩ := h
  exact ⟨h1.keep hb, gb_then h2 hb, h3.keep hb, h4.keep hb, th_keep hb h5, h7.keep hb⟩
theorem S5.setm (h : S5 kt aa imp key x b a2 a3 r n g mb R m w0 w) (hbl : b < w0.heap.size) (hr : r < w0.heap.size) (hm : w0.heap.size < mb) (m' : Int) : S5 kt aa imp key x b a2 a3 r n g mb R m' w0 (w.setCell ⟨mb, 0, none⟩ (.int .i32 m')) := by
  obtain ⟨h1, h2, h3, h4, h5, h7⟩ := h
  exact ⟨h1.far (p := ⟨mb, 0, none⟩) (by dsimp only; omega) _, gb_new h2 (by omega) _ _, h3.other (by dsimp only; omega) _, h4.other (by dsimp only; omega) _, th_set h5, h7.set_ 0 (.int .i32 m')⟩
theorem S5.put (h : S5 kt aa imp key x b a2 a3 r n g mb R m w0 w) (hbr : b ≠ r) (hr : r < w0.heap.size) (hm : w0.heap.size < mb) {i : Nat} (hi : i < n) (y : RU) : S5 kt aa imp key x b a2 a3 r n g mb (upR R i y) m w0 (w.setCells r (i * 2) (ruR y)) := by
  obtain ⟨h1, h2, h3, h4, h5, h7⟩ := h
  refine ⟨?_, ?_, h3.sets hbr _ _, h4.put h5 hi y, World.there_setCells h5 _ _ _, ?_⟩
  all_goals simp only [ruR, World.setCells]
  · exact (h1.far (p := ⟨r, i * 2, none⟩) (by dsimp only; omega) _).far (p := ⟨r, i * 2 + 1, none⟩) (by dsimp only; omega) _
  · exact gb_set (gb_set h2 _ _) _ _
  · exact (h7.far (p := ⟨r, i * 2, none⟩) (by dsimp only; omega) _).far (p := ⟨r, i * 2 + 1, none⟩) (by dsimp only; omega) _
theorem gb_drew (h : w0.grownBy w (some r)) : w0.grownBy w.drew (some r) := gb_then h ⟨rfl, rfl, rfl, Nat.le_refl _, fun _ _ => rfl⟩
theorem gb_al (h : w0.grownBy w (some r)) (o : Obj) : w0.grownBy (w.alloc o) (some r) := gb_then h ((Below.refl _ _).alloc (Nat.le_refl _) o)
theorem S5.drew (h : S5 kt aa imp key x b a2 a3 r n g mb R m w0 w) : S5 kt aa imp key x b a2 a3 r n g mb R m w0 w.drew := h.keep ⟨rfl, rfl, rfl, Nat.le_refl _, fun _ _ => rfl⟩
end
/-- a declaration's cells -/
def dcR (kt : ByteArray) (v : Value) (a2 a3 key : Int) (imp : Bool) : List Value := [.string kt, v, .int .i32 a2, .int .i32 a3, .int .u16 key, .bool imp]
/-- the rules behind k rounds -/
def rk (R : Nat → RU) (x k : Nat) : Nat → RU := if k = 0 then R else upR R x (none, 0)
theorem rk_next (R : Nat → RU) (x k : Nat) : upR (rk R x k) x (none, 0) = rk R x (k + 1) := by
  unfold rk
  rw [if_neg (Nat.succ_ne_zero k)]
  split
  · rfl
  · exact upR_upR _ _ _ _
end Go.Proofs.YtnihlfldlkkobaaDoor.Bx
