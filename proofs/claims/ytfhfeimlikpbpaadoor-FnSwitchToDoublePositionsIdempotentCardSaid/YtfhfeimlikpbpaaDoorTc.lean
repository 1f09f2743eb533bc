/-
  Rows of positions and of colour stops.
-/
import Derived.Test.YtfhfeimlikpbpaaDoorTb
import Derived.Great.BuildSlice
import Derived.KernelRfl
namespace Go.Proofs.YtfhfeimlikpbpaaDoor.Cs
open Go.ChangeShapes Go.WideShapes Go.ChangeAt Go.RowKit Rg
set_option linter.unusedVariables false
/-- a stop: its positions' slice, the positions' numbers, its colour, its midpoint -/
structure Sp where
  v : Value
  ps : List Nat
  c : ByteArray
  m : ByteArray
instance : Inhabited Sp := ⟨⟨.slice none 0 0, [], ⟨#[]⟩, ⟨#[]⟩⟩⟩
/-- its fifteen cells -/
def Sp.cells (s : Sp) : List Value := st s.v s.c s.m
/-- a position's seven cells -/
def pt (q : Nat) : List Value := tk 34 2 (ptx q)
theorem flat_len {α : Type} (f : α → List Value) {s : Nat} (hs : ∀ x, (f x).length = s) : ∀ L : List α, (L.flatMap f).length = L.length * s
  | [] => by simp
  | x :: r => by rw [List.flatMap_cons, List.length_append, flat_len f hs r, hs, List.length_cons, Nat.add_mul]; omega
theorem flat_at {α : Type} (f : α → List Value) {s : Nat} (hs : ∀ x, (f x).length = s) : ∀ (L : List α) (i j : Nat) (h : i < L.length), j < s → (L.flatMap f)[i * s + j]? = (f L[i])[j]?
  | [], _, _, h, _ => absurd h (by simp)
  | x :: r, 0, j, h, hj => by
    rw [List.flatMap_cons, List.getElem?_append_left (by rw [hs]; omega)]
    simp
  | x :: r, i + 1, j, h, hj => by
    rw [List.flatMap_cons, List.getElem?_append_right (by rw [hs, Nat.add_mul]; omega), hs, show (i + 1) * s + j - s = i * s + j by rw [Nat.add_mul]; omega, flat_at f hs r i j (by simpa using h) hj]
    simp
theorem own_range {α : Type} {w : World} {B g c s : Nat} {e : TypeId} {f : α → List Value} {L : List α} (h : w.ownsRow B e s (.slice (some ⟨g, 0, none⟩) L.length c) L.length (L.flatMap f)) (hs : ∀ x, (f x).length = s) {i : Nat} (hi : i < L.length) : w.rangeAt g (i * s) (f L[i]) := by
  intro j u hj
  have hj2 : j < s := by rw [← hs L[i]]; exact (List.getElem?_eq_some_iff.1 hj).1
  have hlt : i * s + j < L.length * s := by
    have : (i + 1) * s ≤ L.length * s := Nat.mul_le_mul_right _ (by omega)
    rw [Nat.add_mul, Nat.one_mul] at this
    omega
  rw [h.cellAt _ hlt, flat_at f hs L i j hi hj2]
  exact hj
theorem own_ne {w : World} {B B' n n' s s' : Nat} {e e' : TypeId} {v v' : Value} {xs xs' : List Value} (h : w.ownsRow B e s v n xs) (h' : w.ownsRow B' e' s' v' n' xs') (hne : e ≠ e') : v.ownBlock = none ∨ v.ownBlock ≠ v'.ownBlock := by
  rcases h.2 with ⟨rfl, _⟩ | ⟨g, cap, cur, rfl, _, hh, _⟩
  · exact .inl rfl
  · right
    rcases h'.2 with ⟨rfl, _⟩ | ⟨g', cap', cur', rfl, _, hh', _⟩
    · simp [Value.ownBlock]
    · intro he
      have : g = g' := by simpa [Value.ownBlock] using he
      subst this
      rw [hh] at hh'
      simp at hh'
      exact hne hh'.2
/-- a slice of positions -/
abbrev PR (w : World) (B : Nat) (v : Value) (ps : List Nat) : Prop := w.ownsRow B 42 7 v ps.length (ps.flatMap pt)
/-- a slice of stops -/
def SR (w : World) (B : Nat) (v : Value) (L : List Sp) : Prop := w.ownsRow B 44 15 v L.length (L.flatMap Sp.cells) ∧ ∀ s ∈ L, PR w 0 s.v s.ps
theorem SR.keep {w w' : World} {B : Nat} {v : Value} {L : List Sp} (h : SR w B v L) (hb : Below w.heap.size w w') : SR w' B v L := ⟨own_keep h.1 hb, fun s hs => own_keep (h.2 s hs) hb⟩
/-- positions are kept where a row of stops grows -/
theorem PR.grown {w w' : World} {B B' n : Nat} {v v' : Value} {ps : List Nat} {xs : List Value} (h : PR w B v ps) (ho : w.ownsRow B' 44 15 v' n xs) (hg : w.grownBy w' v'.ownBlock) : PR w' B v ps := h.kept hg (own_ne h ho (by decide))
theorem st_one (a : Option Addr) (n cp : Nat) (c m : ByteArray) : ∀ u ∈ st (.slice a n cp) c m, u.oneCell' = true := by
  intro u hu; simp [st] at hu; rcases hu with rfl | rfl | rfl | rfl | rfl | rfl | rfl | rfl | rfl | rfl | rfl | rfl | rfl | rfl | rfl <;> rfl
theorem PR.slice {w : World} {B : Nat} {v : Value} {ps : List Nat} (h : PR w B v ps) : ∃ a c, v = .slice a ps.length c := by
  rcases h.2 with ⟨rfl, h0⟩ | ⟨g, cap, cur, rfl, _⟩
  · exact ⟨none, 0, by rw [h0]⟩
  · exact ⟨_, _, rfl⟩
theorem Sp.cells_one {w : World} {B : Nat} {s : Sp} (h : PR w B s.v s.ps) : ∀ u ∈ s.cells, u.oneCell' = true := by
  obtain ⟨a, c, hv⟩ := h.slice
  unfold Sp.cells
  rw [hv]
  exact st_one _ _ _ _ _
theorem fill_tk (k s : Int) (t : ByteArray) (z : Nat) (hz : z = 7) : Instr.fill (fun i => some (i * z, z)) ((Array.range (1 * z)).map ((Value.agg #[.pointer none, .string ⟨#[]⟩, .int .i32 0, .int .u32 0, .int .u16 0, .int .u8 0, .int .u8 0]).cells[· % (Value.agg #[.pointer none, .string ⟨#[]⟩, .int .i32 0, .int .u32 0, .int .u16 0, .int .u8 0, .int .u8 0]).cells.size]!)) [(0, Value.agg #[.pointer none, .string t, .int .i32 0, .int .u32 0, .int .u16 0, .int .u8 k, .int .u8 s])] = some #[.pointer none, .string t, .int .i32 0, .int .u32 0, .int .u16 0, .int .u8 k, .int .u8 s] := by
  subst hz; kernel_rfl
theorem bs_tk (k s : Int) (t : ByteArray) (w : World) : (Instr.buildSlice 34 1 #[(0, .agg #[.pointer none, .string t, .int .i32 0, .int .u32 0, .int .u16 0, .int .u8 k, .int .u8 s])]).run Tryd.prog w = .ok (.slice (some ⟨w.heap.size, 0, none⟩) 1 1) (w.alloc (.cells #[.pointer none, .string t, .int .i32 0, .int .u32 0, .int .u16 0, .int .u8 k, .int .u8 s] 42)) := by
  obtain ⟨i0, hi, hz0, hz1, hz2⟩ := info_parts infoTok
  exact run_buildSlice w 34 42 1 _ _ i0 _ Tryd.underlying34 hi hz0 (by rw [hz1]; decide) (by rw [hz1]; decide) (fill_tk k s t i0.size hz1)
theorem fill_tk2 (k s k' s' : Int) (t t' : ByteArray) (z : Nat) (hz : z = 7) : Instr.fill (fun i => some (i * z, z)) ((Array.range (2 * z)).map ((Value.agg #[.pointer none, .string ⟨#[]⟩, .int .i32 0, .int .u32 0, .int .u16 0, .int .u8 0, .int .u8 0]).cells[· % (Value.agg #[.pointer none, .string ⟨#[]⟩, .int .i32 0, .int .u32 0, .int .u16 0, .int .u8 0, .int .u8 0]).cells.size]!)) [(0, Value.agg #[.pointer none, .string t, .int .i32 0, .int .u32 0, .int .u16 0, .int .u8 k, .int .u8 s]), (1, Value.agg #[.pointer none, .string t', .int .i32 0, .int .u32 0, .int .u16 0, .int .u8 k', .int .u8 s'])] = some #[.pointer none, .string t, .int .i32 0, .int .u32 0, .int .u16 0, .int .u8 k, .int .u8 s, .pointer none, .string t', .int .i32 0, .int .u32 0, .int .u16 0, .int .u8 k', .int .u8 s'] := by
  subst hz; kernel_rfl
theorem bs_tk2 (k s k' s' : Int) (t t' : ByteArray) (w : World) : (Instr.buildSlice 34 2 #[(0, .agg #[.pointer none, .string t, .int .i32 0, .int .u32 0, .int .u16 0, .int .u8 k, .int .u8 s]), (1, .agg #[.pointer none, .string t', .int .i32 0, .int .u32 0, .int .u16 0, .int .u8 k', .int .u8 s'])]).run Tryd.prog w = .ok (.slice (some ⟨w.heap.size, 0, none⟩) 2 2) (w.alloc (.cells #[.pointer none, .string t, .int .i32 0, .int .u32 0, .int .u16 0, .int .u8 k, .int .u8 s, .pointer none, .string t', .int .i32 0, .int .u32 0, .int .u16 0, .int .u8 k', .int .u8 s'] 42)) := by
  obtain ⟨i0, hi, hz0, hz1, hz2⟩ := info_parts infoTok
  exact run_buildSlice w 34 42 2 _ _ i0 _ Tryd.underlying34 hi hz0 (by rw [hz1]; decide) (by rw [hz1]; decide) (fill_tk2 k s k' s' t t' i0.size hz1)
theorem fill_st (a : Option Addr) (n cp : Nat) (c m : ByteArray) (k : Int) (z : Nat) (hz : z = 15) : Instr.fill (fun i => some (i * z, z)) ((Array.range (1 * z)).map ((Value.agg #[.slice none 0 0, .pointer none, .string ⟨#[]⟩, .int .i32 0, .int .u32 0, .int .u16 0, .int .u8 0, .int .u8 0, .pointer none, .string ⟨#[]⟩, .int .i32 0, .int .u32 0, .int .u16 0, .int .u8 0, .int .u8 0]).cells[· % (Value.agg #[.slice none 0 0, .pointer none, .string ⟨#[]⟩, .int .i32 0, .int .u32 0, .int .u16 0, .int .u8 0, .int .u8 0, .pointer none, .string ⟨#[]⟩, .int .i32 0, .int .u32 0, .int .u16 0, .int .u8 0, .int .u8 0]).cells.size]!)) [(0, Value.agg #[.slice a n cp, .pointer none, .string c, .int .i32 0, .int .u32 0, .int .u16 0, .int .u8 29, .int .u8 2, .pointer none, .string m, .int .i32 0, .int .u32 0, .int .u16 0, .int .u8 k, .int .u8 0])] = some #[.slice a n cp, .pointer none, .string c, .int .i32 0, .int .u32 0, .int .u16 0, .int .u8 29, .int .u8 2, .pointer none, .string m, .int .i32 0, .int .u32 0, .int .u16 0, .int .u8 k, .int .u8 0] := by
  subst hz; kernel_rfl
theorem bs_st (a : Option Addr) (n cp : Nat) (c m : ByteArray) (k : Int) (w : World) : (Instr.buildSlice 29 1 #[(0, .agg #[.slice a n cp, .pointer none, .string c, .int .i32 0, .int .u32 0, .int .u16 0, .int .u8 29, .int .u8 2, .pointer none, .string m, .int .i32 0, .int .u32 0, .int .u16 0, .int .u8 k, .int .u8 0])]).run Tryd.prog w = .ok (.slice (some ⟨w.heap.size, 0, none⟩) 1 1) (w.alloc (.cells #[.slice a n cp, .pointer none, .string c, .int .i32 0, .int .u32 0, .int .u16 0, .int .u8 29, .int .u8 2, .pointer none, .string m, .int .i32 0, .int .u32 0, .int .u16 0, .int .u8 k, .int .u8 0] 44)) := by
  obtain ⟨i0, hi, hz0, hz1, hz2⟩ := info_parts infoSt
  exact run_buildSlice w 29 44 1 _ _ i0 _ Tryd.underlying29 hi hz0 (by rw [hz1]; decide) (by rw [hz1]; decide) (fill_st a n cp c m k i0.size hz1)
theorem wpl_bs1 {P : Program} {ops : Array Oper} {rest : List Oper} {o : Oper} {a : Act} {w : World} {Q : Exit → Act → World → Prop} (hg : o.guard = none) (t : TypeId) (x : Operand) (ho : o.op = .buildSlice t 1 #[(0, x)])
    (v r : Value) (W : World) (hx : a.eval x = v) (hrun : (Instr.buildSlice t 1 #[(0, v)]).run P w = .ok r W) (h : wpList P ops Q rest (a.put o.dst r) W) : wpList P ops Q (o :: rest) a w := by
  refine wpList_plain hg fun _ hK => ?_
  unfold Oper.wp execOp
  simp only [ho, Sem.run_bind, List.map_toArray, List.map_cons, List.map_nil, hx, hrun, Result.andThen_ok]
  exact hK _ _ h
theorem step_bs1 {P : Program} {ops : Array Oper} {o : Oper} {a : Act} {w : World} {K : Act → World → Prop} {Q : Exit → Act → World → Prop} {E : Prop} (hgd : o.guard = none) (t : TypeId) (x : Operand) (ho : o.op = .buildSlice t 1 #[(0, x)])
    (v r : Value) (W : World) (hx : a.eval x = v) (hrun : (Instr.buildSlice t 1 #[(0, v)]).run P w = .ok r W) (h : K (a.put o.dst r) W) : if Region.wanted o (yielded ops a.tmps) = true then Oper.wp P o a w K Q else E := by
  have hw : Region.wanted o (yielded ops a.tmps) = true := by simp [Region.wanted, hgd]
  rw [if_pos hw]
  unfold Oper.wp execOp
  simp only [ho, Sem.run_bind, List.map_toArray, List.map_cons, List.map_nil, hx, hrun, Result.andThen_ok]
  exact h
theorem ex_load {P : Program} {o : Oper} {a : Act} {w : World} (ty : TypeId) (x : Operand) (ho : o.op = .load ty x) (b off : Nat) (hx : a.eval x = .pointer (some ⟨b, off, none⟩)) (cs : List Value) (d : TypeDesc) (hc : w.rangeAt b off cs)
    (hu : P.underlying ty = some d) (hd : d.isRow = true) (hi : (P.info? ty).map (·.size) = some cs.length) : (execOp a.eval o).run P w = .ok (.value (.agg cs.toArray)) w := by
  unfold execOp
  simp only [ho, hx, Instr.loadAt, Instr.sureAddr, Sem.run_bind, Sem.run_pure, Result.andThen_ok, run_loadVar_mid w b off ty cs d hc hu hd hi]
theorem st_all (a : Option Addr) (n cp : Nat) (c m : ByteArray) : (st (.slice a n cp) c m).toArray.all (·.oneCell') = true := by simp [st, Value.oneCell']
/-- how many positions stand ahead of stop k -/
def qs (N : Nat → Nat) : Nat → Nat
  | 0 => 0
  | k + 1 => qs N k + N k
/-- a stop without its memory -/
abbrev Tp := List Nat × ByteArray × ByteArray
def Sp.t (s : Sp) : Tp := (s.ps, s.c, s.m)
theorem step_bs2 {P : Program} {ops : Array Oper} {o : Oper} {a : Act} {w : World} {K : Act → World → Prop} {Q : Exit → Act → World → Prop} {E : Prop} (hgd : o.guard = none) (t : TypeId) (x y : Operand) (ho : o.op = .buildSlice t 2 #[(0, x), (1, y)])
    (v u r : Value) (W : World) (hx : a.eval x = v) (hy : a.eval y = u) (hrun : (Instr.buildSlice t 2 #[(0, v), (1, u)]).run P w = .ok r W) (h : K (a.put o.dst r) W) : if Region.wanted o (yielded ops a.tmps) = true then Oper.wp P o a w K Q else E := by
  have hw : Region.wanted o (yielded ops a.tmps) = true := by simp [Region.wanted, hgd]
  rw [if_pos hw]
  unfold Oper.wp execOp
  simp only [ho, Sem.run_bind, List.map_toArray, List.map_cons, List.map_nil, hx, hy, hrun, Result.andThen_ok]
  exact h
/-- may the two be joined? -/
def can (a b : Tp) : Bool := a.1.length == 1 && decide (mk a.2.2 = 0) && b.1.length == 1 && sm a.2.1 b.2.1
/-- what switchToDoublePositions makes of a list -/
def dbl : List Tp → List Tp
  | [] => []
  | [a] => [a]
  | a :: b :: r => if can a b then (a.1 ++ b.1, a.2.1, b.2.2) :: dbl r else a :: dbl (b :: r)
/-- the stops that the law builds -/
def bld (N : Nat → Nat) (C M : Nat → ByteArray) (n : Nat) : List Tp := (List.range n).map fun k => (List.range' (qs N k) (N k), C k, M k)
theorem bld_succ (N : Nat → Nat) (C M : Nat → ByteArray) (n : Nat) : bld N C M (n + 1) = bld N C M n ++ [(List.range' (qs N n) (N n), C n, M n)] := by simp [bld, List.range_succ]
theorem qs_le (N : Nat → Nat) (h : ∀ k, N k ≤ 3) : ∀ n, qs N n ≤ 3 * n
  | 0 => by simp [qs]
  | n + 1 => by have := qs_le N h n; have := h n; rw [qs]; omega
end Go.Proofs.YtfhfeimlikpbpaaDoor.Cs
