/-
  What the walks read of the package: strings.ToLower's tables, the reserved words; maps of one key.
-/
import Derived.Test.YtgicookbgfodbaaDoorSl
import Derived.Test.YtgicookbgfodbaaDoorSx
import Derived.Lib.LaidCase
import Derived.Lib.LaidU8
import Derived.Lib.Strings
import Derived.MakeChecks
import Derived.Maps.OwnSet
import Derived.Maps.OwnOps
import Derived.ChangeMaps5
import Derived.WideKeyArgs
import Derived.WideKeyArgs2
import Derived.StringKeys
import Derived.LaidHandle
import Derived.Carry
namespace Go.Proofs.YtgicookbgfodbaaDoor.Sy
open Go.ChangeShapes Go.WideShapes Go.ChangeAt Go.RowKit Go.Maps Go.WideElems Go.WideMaps Rg
open Go.ChangeMaps (setBlock heap_setBlock_same heap_setBlock_other)
set_option linter.unusedVariables false
set_option linter.unusedSimpArgs false
/-- the tables that strings.ToLower reads -/
def TL (w : World) : Prop := Lib.CaseVar (Tryd.lays159_ren.g 13) Lib.caseA w ∧ Lib.Utf8Tabs (Tryd.lays159_ren.g 3) (Tryd.lays159_ren.g 4) w
theorem TL.keep {w w' : World} (h : TL w) (hb : Below w.heap.size w w') : TL w' := ⟨Lib.CaseVar_below h.1 hb, Proofs.Utf8Tabs_below h.2 hb⟩
theorem TL_of {l : List (String × DataW Unit)} {w : World} (h : laidMetH Tryd.prog l w) (hp : (l.all fun x => x.2.handleName?.isNone) = true) (h1 : ("unicode.CaseRanges", Lib.caseData) ∈ l) (h2 : ("unicode/utf8.first", Lib.firstData) ∈ l) (h3 : ("unicode/utf8.acceptRanges", Lib.acceptData) ∈ l) : TL w := by
  rw [MakeChecks.laidMetH_plain _ _ _ hp] at h
  exact ⟨Proofs.caseVar_of_reads (ρ := Tryd.lays159_ren) { Tryd.lays159 with } Tryd.lays159.t206 ⟨by kernel_rfl, by kernel_rfl, by kernel_rfl, by kernel_rfl, by kernel_rfl, by kernel_rfl⟩ (Lib.laidMet.reads h h1),
    Proofs.utf8Tabs_of_reads (ρ := Tryd.lays159_ren) { Tryd.lays159 with } ⟨by kernel_rfl, by kernel_rfl, by kernel_rfl, by kernel_rfl, by kernel_rfl, by kernel_rfl, by kernel_rfl⟩ (Lib.laidMet.reads h h2) (Lib.laidMet.reads h h3)⟩
def lowB (s : ByteArray) : ByteArray := ⟨(Lib.toLowerD s.data.toList).toArray⟩
theorem low_any (s : ByteArray) (w : World) (hs : (s.size : Int) ≤ 1048576) (h : TL w) :
    Calls Tryd.prog 8 #[.string s] w fun e w' => e = .returned (.string (lowB s)) ∧ Below w.heap.size w w' := Tryd.strings_ToLower_any s w (by omega) h.1 h.2
theorem enc_len (r : Int) : (Lib.encodeRune r).length ≤ 4 := by
  have := (Lib.encodeRuneZ_length r).2
  simpa [Lib.encodeRune] using this
theorem mapGo_len (f : Int → Int) : ∀ (n : Nat) (l : List UInt8), (Lib.mapGoD f n l).length ≤ 4 * n
  | 0, _ => by simp [Lib.mapGoD]
  | n + 1, l => by
    rw [Lib.mapGoD]
    split
    · simp
    · have h1 := mapGo_len f n (l.drop (Lib.decodeL l).2)
      have h2 := enc_len (f (Lib.decodeL l).1)
      rw [List.length_append]
      split
      · omega
      · simp only [List.length_nil]; omega
theorem low_len (s : ByteArray) : (lowB s).size ≤ 4 * s.size := by
  have := mapGo_len Lib.toLowerU s.data.toList.length s.data.toList
  have e1 : s.data.toList.length = s.size := Array.length_toList
  have e2 : (lowB s).size = (Lib.mapGoD Lib.toLowerU s.data.toList.length s.data.toList).length := by
    show ((Lib.mapGoD Lib.toLowerU s.data.toList.length s.data.toList).toArray).size = _
    exact List.size_toArray
  omega
/-- a variable that holds a listed map from strings to bools -/
def MV (g : Nat) (D : DataW Unit) (w : World) : Prop := ∃ b n, w.cell? ⟨g, 0, none⟩ = some (.map (some b)) ∧ w.ownsMap Tryd.prog 9 (plainElem Tryd.prog 4) b n D
theorem MV.keep {g : Nat} {D : DataW Unit} {w w' : World} (h : MV g D w) (hb : Below w.heap.size w w') : MV g D w' := by
  obtain ⟨b, n, h1, h2⟩ := h
  exact ⟨b, n, later hb h1, h2.kept (row := none) (grown_below hb none) (by simp)⟩
/-- what a look-up answers -/
def lookD (D : DataW Unit) (s : ByteArray) : Bool := match D.atKey (.string s.data.toList) (.lit (.bool false)) with
  | .lit (.bool x) => x
  | _ => false
theorem zeroBl (w : World) : (zeroValue 4).run Tryd.prog w = .ok (.bool false) w := by kernel_rfl
set_option maxRecDepth 100000 in
theorem MV.run {g : Nat} {D : DataW Unit} {w : World} (h : MV g D w) (s : ByteArray) (hs : s.size ≤ maxLen) : ∃ b, w.cell? ⟨g, 0, none⟩ = some (.map (some b)) ∧
    (Instr.lookup 24 (.map (some b)) (.string s) false).run Tryd.prog w = .ok (.bool (lookD D s)) w := by
  obtain ⟨b, n, h1, h2⟩ := h
  obtain ⟨v, ps, hrun, hv⟩ := h2.lookup (string_keyed Tryd.underlying9) Tryd.underlying24 (zeroBl w) (plainElem_bool Tryd.underlying4 false) (keyOf_string_mk Tryd.underlying9 hs)
  refine ⟨b, h1, ?_⟩
  unfold plainElem at hv
  rw [Tryd.underlying4] at hv
  cases v <;> simp at hv
  rw [hrun, lookD, ← hv.1]
set_option maxRecDepth 100000 in
theorem MV_of {l : List (String × DataW Unit)} {w : World} {nm : String} {D : List (Lit × DataW Unit)} {g : Nat} (h : laidMetH Tryd.prog l w) (hp : (l.all fun x => x.2.handleName?.isNone) = true) (hm : (nm, DataW.map D) ∈ l)
    (hg : Tryd.prog.globalNamed nm = some g) (ht : (Tryd.prog.globals[g]?).map (·.type) = some 24) : MV g (.map D) w := by
  rw [MakeChecks.laidMetH_plain _ _ _ hp] at h
  obtain ⟨g0, t0, cs0, f0, p0, hg0, ht0, hv0, hd0⟩ := Lib.laidMet.reads h hm
  obtain rfl := Option.some.inj (hg.symm.trans hg0)
  obtain rfl := Option.some.inj (ht.symm.trans ht0)
  rcases open_map Tryd.underlying24 hd0 with ⟨_, hx⟩ | ⟨bm, es, clock, m, rfl, hcs, hb, _, F, hx⟩
  · simp at hx
  simp only [Prod.mk.injEq] at hx
  have hcell : w.cell? ⟨g, 0, none⟩ = some (.map (some bm)) := by
    have := World.var?_cell hg0 hv0 0
    rw [Array.eq_one_of_toList hcs] at this
    simpa using this
  refine ⟨bm, es.size, hcell, ?_⟩
  rw [hx.1]
  exact World.ownsMap_of_fit hb F (fun x _ z hz => by
    obtain ⟨r, e1, e2⟩ := elemAt_bool Tryd.underlying4 hz
    rw [e1, e2]
    exact plainElem_bool Tryd.underlying4 r)
/-- the reserved words -/
def cssL : List (Lit × DataW Unit) := [(.string [100, 101, 102, 97, 117, 108, 116], .lit (.bool true)), (.string [105, 110, 104, 101, 114, 105, 116], .lit (.bool true)), (.string [105, 110, 105, 116, 105, 97, 108], .lit (.bool true)), (.string [114, 101, 118, 101, 114, 116], .lit (.bool true)), (.string [114, 101, 118, 101, 114, 116, 45, 108, 97, 121, 101, 114], .lit (.bool true)), (.string [117, 110, 115, 101, 116], .lit (.bool true))]
def cssG : Nat := 0
theorem wpl_lookup {P : Program} (w : World) {ops : Array Oper} {rest : List Oper} {o : Oper} {a : Act} {Q : Exit → Act → World → Prop}
    (hg : o.guard = none) (m x : Operand) (t : TypeId) (c : Bool) (hop : o.op = Op.lookup t m x c) (mv kv r : Value) (hm : a.eval m = mv) (hx : a.eval x = kv) (hrun : (Instr.lookup t mv kv c).run P w = .ok r w)
    (hK : wpList P ops Q rest (a.put o.dst r) w) : wpList P ops Q (o :: rest) a w := by
  refine wpList_plain hg fun K' hK' => ?_
  unfold Oper.wp
  simp [execOp, hop, hm, hx, hrun, Result.andThen]
  exact hK' _ _ hK
theorem wpl_lookup_g {P : Program} (w : World) {ops : Array Oper} {rest : List Oper} {o : Oper} {a : Act} {Q : Exit → Act → World → Prop}
    (hg : Region.wanted o (yielded ops a.tmps) = true) (m x : Operand) (t : TypeId) (c : Bool) (hop : o.op = Op.lookup t m x c) (mv kv r : Value) (hm : a.eval m = mv) (hx : a.eval x = kv) (hrun : (Instr.lookup t mv kv c).run P w = .ok r w)
    (hK : wpList P ops Q rest (a.put o.dst r) w) : wpList P ops Q (o :: rest) a w := by
  refine wpList_step fun K' hK' => ?_
  rw [if_pos hg]
  unfold Oper.wp
  simp [execOp, hop, hm, hx, hrun, Result.andThen]
  exact hK' _ _ hK
theorem wpl_mapUpdate {P : Program} (w w' : World) {ops : Array Oper} {rest : List Oper} {o : Oper} {a : Act} {Q : Exit → Act → World → Prop}
    (hg : o.guard = none) (m x v : Operand) (t : TypeId) (hop : o.op = Op.mapUpdate t m x v) (mv kv vv : Value) (hm : a.eval m = mv) (hx : a.eval x = kv) (hv : a.eval v = vv) (hrun : (Instr.mapUpdate t mv kv vv).run P w = .ok () w')
    (hK : wpList P ops Q rest (a.put o.dst undef) w') : wpList P ops Q (o :: rest) a w := by
  refine wpList_plain hg fun K' hK' => ?_
  unfold Oper.wp
  simp [execOp, hop, hm, hx, hv, hrun, Result.andThen]
  exact hK' _ _ hK
theorem wpl_insert {P : Program} (w w' : World) {ops : Array Oper} {rest : List Oper} {o : Oper} {a : Act} {Q : Exit → Act → World → Prop}
    (hg : o.guard = none) (m x v : Operand) (t : TypeId) (hop : o.op = Op.insert t m x v) (mv kv vv : Value) (hm : a.eval m = mv) (hx : a.eval x = kv) (hv : a.eval v = vv) (hrun : (Instr.mapUpdate t mv kv vv).run P w = .ok () w')
    (hK : wpList P ops Q rest (a.put o.dst undef) w') : wpList P ops Q (o :: rest) a w := by
  refine wpList_plain hg fun K' hK' => ?_
  unfold Oper.wp
  simp [execOp, hop, hm, hx, hv, hrun, Result.andThen]
  exact hK' _ _ hK

def EV (w : World) : Prop := TL w ∧ MV cssG (.map cssL) w
theorem EV.keep {w w' : World} (h : EV w) (hb : Below w.heap.size w w') : EV w' := ⟨h.1.keep hb, h.2.keep hb⟩
/-- a map of one key -/
def kmO (k : ByteArray) : Obj := .map #[⟨.string k, .bool true, 0⟩] 1
theorem sameNow_str (s x : ByteArray) : Instr.sameNow .string (.string s) (.string x) = some (s == x) := rfl
theorem km_find (k s : ByteArray) : Instr.findNow .string (.string s) [⟨.string k, .bool true, 0⟩] 0 = some (if s = k then some (0, .bool true) else none) := by
  rw [Instr.findNow, sameNow_str]
  by_cases e : s = k
  · have : (s == k) = true := (MapKept.bytes_beq s k).2 e
    rw [this, if_pos e]
  · have : (s == k) = false := by rcases h : (s == k) with _ | _; rfl; exact absurd ((MapKept.bytes_beq s k).1 h) e
    rw [this, if_neg e]; rfl
theorem km_look (w : World) (b : Nat) (k s : ByteArray) (h : w.heap[b]? = some (kmO k)) :
    (Instr.lookup 24 (.map (some b)) (.string s) false).run Tryd.prog w = .ok (.bool (decide (s = k))) w := by
  have hk : MapKept.IsKey TypeDesc.string (.string s) := trivial
  have h1 := MapKept.run_findKey (w := w) Tryd.underlying9 (km_find k s)
  by_cases e : s = k
  · subst e
    rw [if_pos rfl] at h1
    simp [Instr.lookup, run_underlying Tryd.underlying24, MapKept.run_getObj_map h, MapKept.run_checkKey Tryd.underlying9 hk, h1, Result.andThen]
  · rw [if_neg e] at h1
    simp [Instr.lookup, run_underlying Tryd.underlying24, MapKept.run_getObj_map h, MapKept.run_checkKey Tryd.underlying9 hk, h1, zeroBl, Result.andThen, e]
theorem km_put (w : World) (b : Nat) (k : ByteArray) (h : w.heap[b]? = some (.map #[] 0)) :
    (Instr.mapUpdate 24 (.map (some b)) (.string k) (.bool true)).run Tryd.prog w = .ok () (setBlock w b (kmO k)) := by
  have hk : MapKept.IsKey TypeDesc.string (.string k) := trivial
  have h1 := MapKept.run_findKey (w := w) (P := Tryd.prog) Tryd.underlying9 (show Instr.findNow .string (.string k) ([] : List MapEntry) 0 = some none from rfl)
  simp [Instr.mapUpdate, run_underlying Tryd.underlying24, MapKept.run_getObj_map h, MapKept.run_checkKey Tryd.underlying9 hk, h1, MapKept.run_setObj_map _ h, Result.andThen, setBlock, kmO]
end Go.Proofs.YtgicookbgfodbaaDoor.Sy
