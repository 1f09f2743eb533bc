/-
  Compound selectors in memory: finished ones over a set of blocks, rows under construction.
-/
import Derived.Test.YtaiofdgiabmelaaFmtSl
import Derived.Great.BuildSlice
import Derived.KernelRfl
namespace Go.Proofs.YtaiofdgiabmelaaFmt.Sb
open Go.ChangeShapes Go.WideShapes Go.ChangeAt Go.RowKit Rg
set_option linter.unusedVariables false
/-- a plain pseudo-class: the element's three cells, its block's three cells -/
def sbc (p : Nat) : List Value := [.iface 124 (.pointer (some ⟨p, 0, none⟩)), .int .i32 0, .int .i32 0]
def psc (nm : ByteArray) : List Value := [.string nm, .slice none 0 0, .bool false]
/-- a compound's six cells -/
def cmc (vs vn : Value) (cb : Int) : List Value := [.pointer none, vs, vn, .int .i32 0, .int .u8 cb, .bool false]
theorem cmc_len (vs vn : Value) (cb : Int) : (cmc vs vn cb).length = 6 := rfl
theorem sbc_len (p : Nat) : (sbc p).length = 3 := rfl
structure Cm where
  cb : Int
  am : Nat
  N : List ByteArray
structure Cr where
  vs : Value
  vn : Value
  m : Cm
def Cr.cells (r : Cr) : List Value := cmc r.vs r.vn r.m.cb
def spc (x : Nat × ByteArray) : List Value := sbc x.1
theorem rg_ag {w w' : World} {g o : Nat} {cs : List Value} (hg : w'.heap[g]? = w.heap[g]?) (h : w.rangeAt g o cs) : w'.rangeAt g o cs := fun j v hv => by
  rw [World.cell?_of_block (a := ⟨g, o + j, none⟩) hg]; exact h j v hv
theorem own_ag {w w' : World} {B n s : Nat} {e : TypeId} {v : Value} {xs : List Value} (h : w.ownsRow B e s v n xs) (hg : ∀ g, v.ownBlock = some g → w'.heap[g]? = w.heap[g]?) : w'.ownsRow B e s v n xs := by
  refine ⟨h.1, h.2.imp id ?_⟩
  rintro ⟨g, cap, cur, rfl, hb, hh, r⟩
  exact ⟨g, cap, cur, rfl, hb, (hg g rfl).trans hh, r⟩
theorem own_zero {w : World} {B n s : Nat} {e : TypeId} {v : Value} {xs : List Value} (h : w.ownsRow B e s v n xs) : w.ownsRow 0 e s v n xs := own_mono h (Nat.zero_le _)
/-- a finished list of plain pseudo-classes with these names, in blocks of X -/
def FSub (X : Nat → Prop) (w : World) (v : Value) (N : List ByteArray) : Prop :=
  ∃ P : List (Nat × ByteArray), w.ownsRow 0 56 3 v P.length (P.flatMap spc) ∧ P.map (·.2) = N ∧ (∀ g, v.ownBlock = some g → X g) ∧ ∀ x ∈ P, X x.1 ∧ w.rangeAt x.1 0 (psc x.2)
/-- a finished compound -/
def FCm (X : Nat → Prop) (w : World) (r : Cr) : Prop :=
  FSub X w r.vs r.m.N ∧ ∃ an cn, r.vn = .slice an r.m.am cn ∧ ∀ j, j < r.m.am → ∃ g, an = some ⟨g, 0, none⟩ ∧ X g ∧ w.cell? ⟨g, j, none⟩ = some (.int .i32 0)
/-- a finished list of compounds -/
def FCms (X : Nat → Prop) (w : World) (v : Value) (L : List Cm) : Prop :=
  ∃ R : List Cr, w.ownsRow 0 41 6 v R.length (R.flatMap Cr.cells) ∧ R.map (·.m) = L ∧ (∀ g, v.ownBlock = some g → X g) ∧ ∀ r ∈ R, FCm X w r
section
variable {X Y : Nat → Prop} {w w' : World}
theorem FSub.ag {v : Value} {N : List ByteArray} (h : FSub X w v N) (ha : ∀ b, X b → w'.heap[b]? = w.heap[b]?) : FSub X w' v N := by
  obtain ⟨P, h1, h2, h3, h4⟩ := h
  exact ⟨P, own_ag h1 (fun g hg => ha g (h3 g hg)), h2, h3, fun x hx => ⟨(h4 x hx).1, rg_ag (ha _ (h4 x hx).1) (h4 x hx).2⟩⟩
theorem FSub.more {v : Value} {N : List ByteArray} (h : FSub X w v N) (ha : ∀ b, X b → Y b) : FSub Y w v N := by
  obtain ⟨P, h1, h2, h3, h4⟩ := h
  exact ⟨P, h1, h2, fun g hg => ha g (h3 g hg), fun x hx => ⟨ha _ (h4 x hx).1, (h4 x hx).2⟩⟩
theorem FCm.ag {r : Cr} (h : FCm X w r) (ha : ∀ b, X b → w'.heap[b]? = w.heap[b]?) : FCm X w' r := by
  obtain ⟨h1, an, cn, h2, h3⟩ := h
  refine ⟨h1.ag ha, an, cn, h2, fun j hj => ?_⟩
  obtain ⟨g, e, hX, hc⟩ := h3 j hj
  exact ⟨g, e, hX, by rw [World.cell?_of_block (a := ⟨g, j, none⟩) (ha g hX)]; exact hc⟩
theorem FCm.more {r : Cr} (h : FCm X w r) (ha : ∀ b, X b → Y b) : FCm Y w r := by
  obtain ⟨h1, an, cn, h2, h3⟩ := h
  refine ⟨h1.more ha, an, cn, h2, fun j hj => ?_⟩
  obtain ⟨g, e, hX, hc⟩ := h3 j hj
  exact ⟨g, e, ha g hX, hc⟩
theorem FCms.ag {v : Value} {L : List Cm} (h : FCms X w v L) (ha : ∀ b, X b → w'.heap[b]? = w.heap[b]?) : FCms X w' v L := by
  obtain ⟨R, h1, h2, h3, h4⟩ := h
  exact ⟨R, own_ag h1 (fun g hg => ha g (h3 g hg)), h2, h3, fun r hr => (h4 r hr).ag ha⟩
theorem FCms.more {v : Value} {L : List Cm} (h : FCms X w v L) (ha : ∀ b, X b → Y b) : FCms Y w v L := by
  obtain ⟨R, h1, h2, h3, h4⟩ := h
  exact ⟨R, h1, h2, fun g hg => ha g (h3 g hg), fun r hr => (h4 r hr).more ha⟩
theorem ag_below (hX : ∀ b, X b → b < w.heap.size) (hb : Below w.heap.size w w') : ∀ b, X b → w'.heap[b]? = w.heap[b]? := fun b h => hb.block b (hX b h)
theorem ag_grown {row : Option Nat} (hX : ∀ b, X b → b < w.heap.size) (hn : ∀ b, X b → some b ≠ row) (hg : w.grownBy w' row) : ∀ b, X b → w'.heap[b]? = w.heap[b]? := fun b h => hg.block b (hX b h) (hn b h)
end
theorem flat_len {α : Type} (f : α → List Value) {s : Nat} (hs : ∀ x, (f x).length = s) : ∀ L : List α, (L.flatMap f).length = L.length * s
  | [] => by simp
  | x :: r => by rw [List.flatMap_cons, List.length_append, flat_len f hs r, hs, List.length_cons, Nat.add_mul]; omega
theorem flat_at {α : Type} (f : α → List Value) {s : Nat} (hs : ∀ x, (f x).length = s) : ∀ (L : List α) (i j : Nat) (h : i < L.length), j < s → (L.flatMap f)[i * s + j]? = (f L[i])[j]?
  | [], _, _, h, _ => absurd h (by simp)
  | x :: r, 0, j, h, hj => by
    rw [List.flatMap_cons, List.getElem?_append_left (by rw [hs]; omega)]
    simp
  | x :: r, i + 1, j, h, hj => by
    rw [List.flatMap_cons, List.getElem?_append_right (by rw [hs, Nat.add_mul]; omega), hs, show (i + 1) * s + j - s = i * s + j by rw [Nat.add_mul]; omega, flat_at f hs r i j (by simpa using h) hj]
    simp
theorem own_range {α : Type} {w : World} {B g c s : Nat} {e : TypeId} {f : α → List Value} {L : List α} (h : w.ownsRow B e s (.slice (some ⟨g, 0, none⟩) L.length c) L.length (L.flatMap f)) (hs : ∀ x, (f x).length = s) {i : Nat} (hi : i < L.length) : w.rangeAt g (i * s) (f L[i]) := by
  intro j u hj
  have hj2 : j < s := by rw [← hs L[i]]; exact (List.getElem?_eq_some_iff.1 hj).1
  have hlt : i * s + j < L.length * s := by
    have : (i + 1) * s ≤ L.length * s := Nat.mul_le_mul_right _ (by omega)
    rw [Nat.add_mul, Nat.one_mul] at this
    omega
  rw [h.cellAt _ hlt, flat_at f hs L i j hi hj2]
  exact hj
theorem own_slice {w : World} {B n s : Nat} {e : TypeId} {v : Value} {xs : List Value} (h : w.ownsRow B e s v n xs) : ∃ a c, v = .slice a n c := by
  rcases h.2 with ⟨rfl, h0⟩ | ⟨g, cap, cur, rfl, _⟩
  · exact ⟨none, 0, by rw [h0]⟩
  · exact ⟨_, _, rfl⟩
theorem own_le {w : World} {B n s : Nat} {e : TypeId} {v : Value} {xs : List Value} (h : w.ownsRow B e s v n xs) : n ≤ maxLen := by
  rcases h.2 with ⟨_, h0⟩ | ⟨g, cap, cur, _, _, _, h1, h2, _⟩
  · omega
  · omega
theorem sbc_one (p : Nat) : ∀ u ∈ sbc p, u.oneCell' = true := by
  intro u hu; simp [sbc] at hu; rcases hu with rfl | rfl | rfl <;> rfl
theorem cmc_one (a a' : Option Addr) (n cp n' cp' : Nat) (cb : Int) : ∀ u ∈ cmc (.slice a n cp) (.slice a' n' cp') cb, u.oneCell' = true := by
  intro u hu; simp [cmc] at hu; rcases hu with rfl | rfl | rfl | rfl | rfl | rfl <;> rfl
theorem cmc_all (a a' : Option Addr) (n cp n' cp' : Nat) (cb : Int) : (cmc (.slice a n cp) (.slice a' n' cp') cb).toArray.all (·.oneCell') = true := by simp [cmc, Value.oneCell']
theorem tySub : ∃ d, Tryf.prog.underlying 56 = some d ∧ d.isRow = true := ⟨_, Tryf.underlying56, rfl⟩
theorem szSub : (Tryf.prog.info? 56).map (·.size) = some 3 := by kernel_rfl
theorem tyCmp : ∃ d, Tryf.prog.underlying 41 = some d ∧ d.isRow = true := ⟨_, Tryf.underlying41, rfl⟩
theorem szCmp : (Tryf.prog.info? 41).map (·.size) = some 6 := by kernel_rfl
theorem infoSub : (Tryf.prog.info? 56).map (fun i => (i.zero, i.size, i.bytes)) = some (some (.agg #[.nilIface, .int .i32 0, .int .i32 0]), 3, 24) := by kernel_rfl
theorem infoCmp : (Tryf.prog.info? 41).map (fun i => (i.zero, i.size, i.bytes)) = some (some (.agg #[.pointer none, .slice none 0 0, .slice none 0 0, .int .i32 0, .int .u8 0, .bool false]), 6, 72) := by kernel_rfl
theorem infoCpl : (Tryf.prog.info? 44).map (fun i => (i.zero, i.size, i.bytes)) = some (some (.agg #[.slice none 0 0]), 1, 24) := by kernel_rfl
theorem infoLoc : (Tryf.prog.info? 37).map (fun i => (i.zero, i.size, i.bytes)) = some (some (.agg #[.int .i32 0]), 1, 4) := by kernel_rfl
theorem infoLst : (Tryf.prog.info? 121).map (fun i => (i.zero, i.size, i.bytes)) = some (some (.agg #[.slice none 0 0, .string ⟨#[]⟩, .string ⟨#[]⟩, .int .u8 0]), 4, 64) := by kernel_rfl
theorem fill_sub (D : Value) (T : TypeId) (p : Nat) (s : Nat) (hs : s = 3) : Instr.fill (fun i => some (i * s, s)) ((Array.range (1 * s)).map ((Value.agg #[.nilIface, .int .i32 0, .int .i32 0]).cells[· % (Value.agg #[.nilIface, .int .i32 0, .int .i32 0]).cells.size]!)) [(0, Value.agg #[.iface T (.pointer (some ⟨p, 0, none⟩)), .int .i32 0, .int .i32 0])] = some #[.iface T (.pointer (some ⟨p, 0, none⟩)), .int .i32 0, .int .i32 0] := by
  subst hs; kernel_rfl
theorem bs_sub (T : TypeId) (p : Nat) (w : World) : (Instr.buildSlice 34 1 #[(0, .agg #[.iface T (.pointer (some ⟨p, 0, none⟩)), .int .i32 0, .int .i32 0])]).run Tryf.prog w = .ok (.slice (some ⟨w.heap.size, 0, none⟩) 1 1) (w.alloc (.cells #[.iface T (.pointer (some ⟨p, 0, none⟩)), .int .i32 0, .int .i32 0] 56)) := by
  obtain ⟨i0, hi, hz0, hz1, hz2⟩ := info_parts infoSub
  exact run_buildSlice w 34 56 1 _ _ i0 _ Tryf.underlying34 hi hz0 (by rw [hz1]; decide) (by rw [hz1]; decide) (fill_sub .nilIface T p i0.size hz1)
theorem fill_cmp (a a' : Option Addr) (n cp n' cp' : Nat) (cb : Int) (s : Nat) (hs : s = 6) : Instr.fill (fun i => some (i * s, s)) ((Array.range (1 * s)).map ((Value.agg #[.pointer none, .slice none 0 0, .slice none 0 0, .int .i32 0, .int .u8 0, .bool false]).cells[· % (Value.agg #[.pointer none, .slice none 0 0, .slice none 0 0, .int .i32 0, .int .u8 0, .bool false]).cells.size]!)) [(0, Value.agg #[.pointer none, .slice a n cp, .slice a' n' cp', .int .i32 0, .int .u8 cb, .bool false])] = some #[.pointer none, .slice a n cp, .slice a' n' cp', .int .i32 0, .int .u8 cb, .bool false] := by
  subst hs; kernel_rfl
theorem bs_cmp (a a' : Option Addr) (n cp n' cp' : Nat) (cb : Int) (w : World) : (Instr.buildSlice 31 1 #[(0, .agg #[.pointer none, .slice a n cp, .slice a' n' cp', .int .i32 0, .int .u8 cb, .bool false])]).run Tryf.prog w = .ok (.slice (some ⟨w.heap.size, 0, none⟩) 1 1) (w.alloc (.cells #[.pointer none, .slice a n cp, .slice a' n' cp', .int .i32 0, .int .u8 cb, .bool false] 41)) := by
  obtain ⟨i0, hi, hz0, hz1, hz2⟩ := info_parts infoCmp
  exact run_buildSlice w 31 41 1 _ _ i0 _ Tryf.underlying31 hi hz0 (by rw [hz1]; decide) (by rw [hz1]; decide) (fill_cmp a a' n cp n' cp' cb i0.size hz1)
theorem fill_cpl (a : Option Addr) (n cp : Nat) (s : Nat) (hs : s = 1) : Instr.fill (fun i => some (i * s, s)) ((Array.range (1 * s)).map ((Value.agg #[.slice none 0 0]).cells[· % (Value.agg #[.slice none 0 0]).cells.size]!)) [(0, Value.agg #[.slice a n cp])] = some #[.slice a n cp] := by
  subst hs; kernel_rfl
theorem bs_cpl (a : Option Addr) (n cp : Nat) (w : World) : (Instr.buildSlice 46 1 #[(0, .agg #[.slice a n cp])]).run Tryf.prog w = .ok (.slice (some ⟨w.heap.size, 0, none⟩) 1 1) (w.alloc (.cells #[.slice a n cp] 44)) := by
  obtain ⟨i0, hi, hz0, hz1, hz2⟩ := info_parts infoCpl
  exact run_buildSlice w 46 44 1 _ _ i0 _ Tryf.underlying46 hi hz0 (by rw [hz1]; decide) (by rw [hz1]; decide) (fill_cpl a n cp i0.size hz1)
theorem wpl_bs1 {P : Program} {ops : Array Oper} {rest : List Oper} {o : Oper} {a : Act} {w : World} {Q : Exit → Act → World → Prop} (hg : o.guard = none) (t : TypeId) (x : Operand) (ho : o.op = .buildSlice t 1 #[(0, x)])
    (v r : Value) (W : World) (hx : a.eval x = v) (hrun : (Instr.buildSlice t 1 #[(0, v)]).run P w = .ok r W) (h : wpList P ops Q rest (a.put o.dst r) W) : wpList P ops Q (o :: rest) a w := by
  refine wpList_plain hg fun _ hK => ?_
  unfold Oper.wp execOp
  simp only [ho, Sem.run_bind, List.map_toArray, List.map_cons, List.map_nil, hx, hrun, Result.andThen_ok]
  exact hK _ _ h
theorem step_bs1 {P : Program} {ops : Array Oper} {o : Oper} {a : Act} {w : World} {K : Act → World → Prop} {Q : Exit → Act → World → Prop} {E : Prop} (hgd : o.guard = none) (t : TypeId) (x : Operand) (ho : o.op = .buildSlice t 1 #[(0, x)])
    (v r : Value) (W : World) (hx : a.eval x = v) (hrun : (Instr.buildSlice t 1 #[(0, v)]).run P w = .ok r W) (h : K (a.put o.dst r) W) : if Region.wanted o (yielded ops a.tmps) = true then Oper.wp P o a w K Q else E := by
  have hw : Region.wanted o (yielded ops a.tmps) = true := by simp [Region.wanted, hgd]
  rw [if_pos hw]
  unfold Oper.wp execOp
  simp only [ho, Sem.run_bind, List.map_toArray, List.map_cons, List.map_nil, hx, hrun, Result.andThen_ok]
  exact h
theorem ex_load {P : Program} {o : Oper} {a : Act} {w : World} (ty : TypeId) (x : Operand) (ho : o.op = .load ty x) (b off : Nat) (hx : a.eval x = .pointer (some ⟨b, off, none⟩)) (cs : List Value) (d : TypeDesc) (hc : w.rangeAt b off cs)
    (hu : P.underlying ty = some d) (hd : d.isRow = true) (hi : (P.info? ty).map (·.size) = some cs.length) : (execOp a.eval o).run P w = .ok (.value (.agg cs.toArray)) w := by
  unfold execOp
  simp only [ho, hx, Instr.loadAt, Instr.sureAddr, Sem.run_bind, Sem.run_pure, Result.andThen_ok, run_loadVar_mid w b off ty cs d hc hu hd hi]
theorem ta_no (p : Nat) (w : World) : (Instr.typeAssert (.iface 124 (.pointer (some ⟨p, 0, none⟩))) 52 115 true).run Tryf.prog w = .ok (.tuple #[.pointer none, .bool false]) w := by kernel_rfl
theorem ta_yes (p : Nat) (w : World) : (Instr.typeAssert (.iface 115 (.pointer (some ⟨p, 0, none⟩))) 52 115 true).run Tryf.prog w = .ok (.tuple #[.pointer (some ⟨p, 0, none⟩), .bool true]) w := by kernel_rfl
end Go.Proofs.YtaiofdgiabmelaaFmt.Sb
