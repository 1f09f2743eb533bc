/-
  The symbol tables: a map from names to places; look-up and store.
-/
import Derived.Test.YtkphnplmjpjbjaaDoorSl
import Derived.Maps.OwnOps
import Derived.ChangeMaps5
namespace Go.Proofs.YtkphnplmjpjbjaaDoor.Sy
open Go.ChangeShapes Go.WideShapes Go.ChangeAt Go.RowKit Rg
open Go.ChangeMaps (setBlock heap_setBlock_same heap_setBlock_other)
set_option linter.unusedVariables false
set_option linter.unusedSimpArgs false
/-- a LocRef at place i -/
def lrv (i : Int) : Value := .agg #[.int .i32 0, .int .u32 0, .int .u32 i]
def entsL : Nat → List ByteArray → List MapEntry
  | _, [] => []
  | i, s :: r => ⟨.string s, lrv i, i⟩ :: entsL (i + 1) r
/-- the place of the first s -/
def ixF (s : ByteArray) : List ByteArray → Option Nat
  | [] => none
  | x :: r => if s = x then some 0 else (ixF s r).map (· + 1)
theorem ixF_lt {s : ByteArray} : ∀ {ns : List ByteArray} {j : Nat}, ixF s ns = some j → j < ns.length ∧ ns[j]? = some s
  | [], j, h => by cases h
  | x :: r, j, h => by
    rw [ixF] at h
    by_cases e : s = x
    · rw [if_pos e] at h
      obtain rfl := Option.some.inj h
      exact ⟨by simp, by rw [e]; rfl⟩
    · rw [if_neg e] at h
      obtain ⟨i, hi, rfl⟩ := Option.map_eq_some_iff.1 h
      have := ixF_lt hi
      exact ⟨by simp; omega, by simpa using this.2⟩
theorem ixF_none {s : ByteArray} : ∀ {ns : List ByteArray}, ixF s ns = none ↔ s ∉ ns
  | [] => by simp [ixF]
  | x :: r => by
    rw [ixF]
    by_cases e : s = x
    · simp [e]
    · rw [if_neg e, Option.map_eq_none_iff, ixF_none]; simp [e]
theorem ixF_snoc {s : ByteArray} (t : ByteArray) : ∀ {ns : List ByteArray} {j : Nat}, ixF s ns = some j → ixF s (ns ++ [t]) = some j
  | [], j, h => by cases h
  | x :: r, j, h => by
    rw [List.cons_append, ixF]
    rw [ixF] at h
    by_cases e : s = x
    · rw [if_pos e] at h ⊢; exact h
    · rw [if_neg e] at h ⊢
      obtain ⟨i, hi, rfl⟩ := Option.map_eq_some_iff.1 h
      rw [ixF_snoc t hi]; rfl
theorem ixF_new {s : ByteArray} : ∀ {ns : List ByteArray}, ixF s ns = none → ixF s (ns ++ [s]) = some ns.length
  | [], _ => by simp [ixF]
  | x :: r, h => by
    rw [ixF] at h
    rw [List.cons_append, ixF]
    by_cases e : s = x
    · rw [if_pos e] at h; cases h
    · rw [if_neg e] at h ⊢
      rw [ixF_new (Option.map_eq_none_iff.1 h)]; rfl
theorem sameNow_str (s x : ByteArray) : Instr.sameNow .string (.string s) (.string x) = some (s == x) := rfl
theorem findNow_ents (s : ByteArray) : ∀ (ns : List ByteArray) (i k : Nat), Instr.findNow .string (.string s) (entsL i ns) k = some ((ixF s ns).map fun j => (k + j, lrv ((i + j : Nat) : Int)))
  | [], i, k => rfl
  | x :: r, i, k => by
    rw [entsL, Instr.findNow, sameNow_str, ixF]
    by_cases e : s = x
    · have : (s == x) = true := (MapKept.bytes_beq s x).2 e
      rw [this, if_pos e]; simp
    · have : (s == x) = false := by rcases h : (s == x) with _ | _; rfl; exact absurd ((MapKept.bytes_beq s x).1 h) e
      rw [this, if_neg e]
      simp only
      rw [findNow_ents s r (i + 1) (k + 1)]
      cases ixF s r with
      | none => rfl
      | some j => simp only [Option.map_some]; rw [show k + 1 + j = k + (j + 1) by omega, show i + 1 + j = i + (j + 1) by omega]
theorem entsL_snoc (s : ByteArray) : ∀ (ns : List ByteArray) (i : Nat), entsL i (ns ++ [s]) = entsL i ns ++ [⟨.string s, lrv ((i + ns.length : Nat) : Int), i + ns.length⟩]
  | [], i => rfl
  | x :: r, i => by
    rw [List.cons_append, entsL, entsL, entsL_snoc s r (i + 1)]
    simp only [List.cons_append, List.length_cons]
    rw [show i + 1 + r.length = i + (r.length + 1) by omega]
def mpO (ns : List ByteArray) : Obj := .map (entsL 0 ns).toArray ns.length
def ixV (s : ByteArray) (ns : List ByteArray) : Int := ((ixF s ns).getD 0 : Nat)
theorem zeroLr (w : World) : (zeroValue 104).run Tryd.prog w = .ok (.agg #[.int .i32 0, .int .u32 0, .int .u32 0]) w := by kernel_rfl
theorem look_run (w : World) (b : Nat) (ns : List ByteArray) (s : ByteArray) (h : w.heap[b]? = some (mpO ns)) :
    (Instr.lookup 47 (.map (some b)) (.string s) true).run Tryd.prog w = .ok (.tuple #[lrv (ixV s ns), .bool (ixF s ns).isSome]) w := by
  have hf := findNow_ents s ns 0 0
  have hk : MapKept.IsKey TypeDesc.string (.string s) := trivial
  have h1 := MapKept.run_findKey (w := w) Tryd.underlying9 hf
  cases hx : ixF s ns with
  | none =>
    rw [hx] at h1
    simp [Instr.lookup, run_underlying Tryd.underlying47, MapKept.run_getObj_map h, MapKept.run_checkKey Tryd.underlying9 hk, h1, zeroLr, Result.andThen, ixV, hx, lrv]
  | some j =>
    rw [hx] at h1
    simp [Instr.lookup, run_underlying Tryd.underlying47, MapKept.run_getObj_map h, MapKept.run_checkKey Tryd.underlying9 hk, h1, Result.andThen, ixV, hx, lrv]
theorem upd_run (w : World) (b : Nat) (ns : List ByteArray) (s : ByteArray) (h : w.heap[b]? = some (mpO ns)) (hn : ixF s ns = none) :
    (Instr.mapUpdate 47 (.map (some b)) (.string s) (lrv (ns.length : Int))).run Tryd.prog w = .ok () (setBlock w b (mpO (ns ++ [s]))) := by
  have hf := findNow_ents s ns 0 0
  rw [hn] at hf
  have hk : MapKept.IsKey TypeDesc.string (.string s) := trivial
  have h1 := MapKept.run_findKey (w := w) Tryd.underlying9 hf
  have e : mpO (ns ++ [s]) = .map ((entsL 0 ns).toArray.push ⟨.string s, lrv (ns.length : Int), ns.length⟩) (ns.length + 1) := by
    rw [mpO, entsL_snoc]; simp
  rw [e]
  simp [Instr.mapUpdate, run_underlying Tryd.underlying47, MapKept.run_getObj_map h, MapKept.run_checkKey Tryd.underlying9 hk, h1, MapKept.run_setObj_map _ h, Result.andThen, setBlock]
theorem wpl_lookup {P : Program} (w : World) {ops : Array Oper} {rest : List Oper} {o : Oper} {a : Act} {Q : Exit → Act → World → Prop}
    (hg : o.guard = none) (m x : Operand) (t : TypeId) (c : Bool) (hop : o.op = Op.lookup t m x c) (mv kv r : Value) (hm : a.eval m = mv) (hx : a.eval x = kv) (hrun : (Instr.lookup t mv kv c).run P w = .ok r w)
    (hK : wpList P ops Q rest (a.put o.dst r) w) : wpList P ops Q (o :: rest) a w := by
  refine wpList_plain hg fun K' hK' => ?_
  unfold Oper.wp
  simp [execOp, hop, hm, hx, hrun, Result.andThen]
  exact hK' _ _ hK
theorem wpl_lookup_g {P : Program} (w : World) {ops : Array Oper} {rest : List Oper} {o : Oper} {a : Act} {Q : Exit → Act → World → Prop}
    (hg : Region.wanted o (yielded ops a.tmps) = true) (m x : Operand) (t : TypeId) (c : Bool) (hop : o.op = Op.lookup t m x c) (mv kv r : Value) (hm : a.eval m = mv) (hx : a.eval x = kv) (hrun : (Instr.lookup t mv kv c).run P w = .ok r w)
    (hK : wpList P ops Q rest (a.put o.dst r) w) : wpList P ops Q (o :: rest) a w := by
  refine wpList_step fun K' hK' => ?_
  rw [if_pos hg]
  unfold Oper.wp
  simp [execOp, hop, hm, hx, hrun, Result.andThen]
  exact hK' _ _ hK
theorem wpl_mapUpdate {P : Program} (w w' : World) {ops : Array Oper} {rest : List Oper} {o : Oper} {a : Act} {Q : Exit → Act → World → Prop}
    (hg : o.guard = none) (m x v : Operand) (t : TypeId) (hop : o.op = Op.mapUpdate t m x v) (mv kv vv : Value) (hm : a.eval m = mv) (hx : a.eval x = kv) (hv : a.eval v = vv) (hrun : (Instr.mapUpdate t mv kv vv).run P w = .ok () w')
    (hK : wpList P ops Q rest (a.put o.dst undef) w') : wpList P ops Q (o :: rest) a w := by
  refine wpList_plain hg fun K' hK' => ?_
  unfold Oper.wp
  simp [execOp, hop, hm, hx, hv, hrun, Result.andThen]
  exact hK' _ _ hK
end Go.Proofs.YtkphnplmjpjbjaaDoor.Sy
