/-
  What the walks read of the package: strings.ToLower's tables, the reserved words, InvalidRef.
-/
import Derived.Test.YtkphnplmjpjbjaaDoorTk
import Derived.Test.YtkphnplmjpjbjaaDoorSx
import Derived.Lib.LaidCase
import Derived.Lib.LaidU8
import Derived.Lib.Strings
import Derived.MakeChecks
import Derived.Maps.OwnSet
import Derived.WideKeyArgs
import Derived.WideKeyArgs2
import Derived.StringKeys
import Derived.LaidHandle
namespace Go.Proofs.YtkphnplmjpjbjaaDoor.Sy
open Go.ChangeShapes Go.WideShapes Go.ChangeAt Go.RowKit Go.Maps Go.WideElems Go.WideMaps Rg
set_option linter.unusedVariables false
set_option linter.unusedSimpArgs false
/-- the tables that strings.ToLower reads -/
def TL (w : World) : Prop := Lib.CaseVar (Tryd.lays159_ren.g 13) Lib.caseA w ∧ Lib.Utf8Tabs (Tryd.lays159_ren.g 3) (Tryd.lays159_ren.g 4) w
theorem TL.keep {w w' : World} (h : TL w) (hb : Below w.heap.size w w') : TL w' := ⟨Lib.CaseVar_below h.1 hb, Proofs.Utf8Tabs_below h.2 hb⟩
theorem TL_of {l : List (String × DataW Unit)} {w : World} (h : laidMetH Tryd.prog l w) (hp : (l.all fun x => x.2.handleName?.isNone) = true) (h1 : ("unicode.CaseRanges", Lib.caseData) ∈ l) (h2 : ("unicode/utf8.first", Lib.firstData) ∈ l) (h3 : ("unicode/utf8.acceptRanges", Lib.acceptData) ∈ l) : TL w := by
  rw [MakeChecks.laidMetH_plain _ _ _ hp] at h
  exact ⟨Proofs.caseVar_of_reads (ρ := Tryd.lays159_ren) { Tryd.lays159 with } Tryd.lays159.t206 ⟨by kernel_rfl, by kernel_rfl, by kernel_rfl, by kernel_rfl, by kernel_rfl, by kernel_rfl⟩ (Lib.laidMet.reads h h1),
    Proofs.utf8Tabs_of_reads (ρ := Tryd.lays159_ren) { Tryd.lays159 with } ⟨by kernel_rfl, by kernel_rfl, by kernel_rfl, by kernel_rfl, by kernel_rfl, by kernel_rfl, by kernel_rfl⟩ (Lib.laidMet.reads h h2) (Lib.laidMet.reads h h3)⟩
def lowB (s : ByteArray) : ByteArray := ⟨(Lib.toLowerD s.data.toList).toArray⟩
theorem low_any (s : ByteArray) (w : World) (hs : (s.size : Int) ≤ 1048576) (h : TL w) :
    Calls Tryd.prog 19 #[.string s] w fun e w' => e = .returned (.string (lowB s)) ∧ Below w.heap.size w w' := Tryd.strings_ToLower_any s w (by omega) h.1 h.2
theorem enc_len (r : Int) : (Lib.encodeRune r).length ≤ 4 := by
  have := (Lib.encodeRuneZ_length r).2
  simpa [Lib.encodeRune] using this
theorem mapGo_len (f : Int → Int) : ∀ (n : Nat) (l : List UInt8), (Lib.mapGoD f n l).length ≤ 4 * n
  | 0, _ => by simp [Lib.mapGoD]
  | n + 1, l => by
    rw [Lib.mapGoD]
    split
    · simp
    · have h1 := mapGo_len f n (l.drop (Lib.decodeL l).2)
      have h2 := enc_len (f (Lib.decodeL l).1)
      rw [List.length_append]
      split
      · omega
      · simp only [List.length_nil]; omega
theorem low_len (s : ByteArray) : (lowB s).size ≤ 4 * s.size := by
  have := mapGo_len Lib.toLowerU s.data.toList.length s.data.toList
  have e1 : s.data.toList.length = s.size := Array.length_toList
  have e2 : (lowB s).size = (Lib.mapGoD Lib.toLowerU s.data.toList.length s.data.toList).length := by
    show ((Lib.mapGoD Lib.toLowerU s.data.toList.length s.data.toList).toArray).size = _
    exact List.size_toArray
  omega
/-- a variable that holds a listed map from strings to bools -/
def MV (g : Nat) (D : DataW Unit) (w : World) : Prop := ∃ b n, w.cell? ⟨g, 0, none⟩ = some (.map (some b)) ∧ w.ownsMap Tryd.prog 9 (plainElem Tryd.prog 4) b n D
theorem MV.keep {g : Nat} {D : DataW Unit} {w w' : World} (h : MV g D w) (hb : Below w.heap.size w w') : MV g D w' := by
  obtain ⟨b, n, h1, h2⟩ := h
  exact ⟨b, n, later hb h1, h2.kept (row := none) (grown_below hb none) (by simp)⟩
/-- what a look-up answers -/
def lookD (D : DataW Unit) (s : ByteArray) : Bool := match D.atKey (.string s.data.toList) (.lit (.bool false)) with
  | .lit (.bool x) => x
  | _ => false
theorem zeroBl (w : World) : (zeroValue 4).run Tryd.prog w = .ok (.bool false) w := by kernel_rfl
set_option maxRecDepth 100000 in
theorem MV.run {g : Nat} {D : DataW Unit} {w : World} (h : MV g D w) (s : ByteArray) (hs : s.size ≤ maxLen) : ∃ b, w.cell? ⟨g, 0, none⟩ = some (.map (some b)) ∧
    (Instr.lookup 102 (.map (some b)) (.string s) false).run Tryd.prog w = .ok (.bool (lookD D s)) w := by
  obtain ⟨b, n, h1, h2⟩ := h
  obtain ⟨v, ps, hrun, hv⟩ := h2.lookup (string_keyed Tryd.underlying9) Tryd.underlying102 (zeroBl w) (plainElem_bool Tryd.underlying4 false) (keyOf_string_mk Tryd.underlying9 hs)
  refine ⟨b, h1, ?_⟩
  unfold plainElem at hv
  rw [Tryd.underlying4] at hv
  cases v <;> simp at hv
  rw [hrun, lookD, ← hv.1]
set_option maxRecDepth 100000 in
theorem MV_of {l : List (String × DataW Unit)} {w : World} {nm : String} {D : List (Lit × DataW Unit)} {g : Nat} (h : laidMetH Tryd.prog l w) (hp : (l.all fun x => x.2.handleName?.isNone) = true) (hm : (nm, DataW.map D) ∈ l)
    (hg : Tryd.prog.globalNamed nm = some g) (ht : (Tryd.prog.globals[g]?).map (·.type) = some 102) : MV g (.map D) w := by
  rw [MakeChecks.laidMetH_plain _ _ _ hp] at h
  obtain ⟨g0, t0, cs0, f0, p0, hg0, ht0, hv0, hd0⟩ := Lib.laidMet.reads h hm
  obtain rfl := Option.some.inj (hg.symm.trans hg0)
  obtain rfl := Option.some.inj (ht.symm.trans ht0)
  rcases open_map Tryd.underlying102 hd0 with ⟨_, hx⟩ | ⟨bm, es, clock, m, rfl, hcs, hb, _, F, hx⟩
  · simp at hx
  simp only [Prod.mk.injEq] at hx
  have hcell : w.cell? ⟨g, 0, none⟩ = some (.map (some bm)) := by
    have := World.var?_cell hg0 hv0 0
    rw [Array.eq_one_of_toList hcs] at this
    simpa using this
  refine ⟨bm, es.size, hcell, ?_⟩
  rw [hx.1]
  exact World.ownsMap_of_fit hb F (fun x _ z hz => by
    obtain ⟨r, e1, e2⟩ := elemAt_bool Tryd.underlying4 hz
    rw [e1, e2]
    exact plainElem_bool Tryd.underlying4 r)
theorem IR_of {l : List (String × DataW Unit)} {w : World} (h : laidMetH Tryd.prog l w) (hp : (l.all fun x => x.2.handleName?.isNone) = true)
    (hm : ("github.com/evanw/esbuild/internal/ast.InvalidRef", DataW.agg [.lit (.int .u32 4294967295), .lit (.int .u32 4294967295)]) ∈ l) : IR w := by
  rw [MakeChecks.laidMetH_plain _ _ _ hp] at h
  obtain ⟨g0, t0, cs0, f0, p0, hg0, ht0, hv0, hd0⟩ := Lib.laidMet.reads h hm
  obtain rfl := Option.some.inj ((show Tryd.prog.globalNamed "github.com/evanw/esbuild/internal/ast.InvalidRef" = some 1 by kernel_rfl).symm.trans hg0)
  obtain rfl := Option.some.inj ((show (Tryd.prog.globals[1]?).map (·.type) = some 92 by kernel_rfl).symm.trans ht0)
  have hc := Lib.ints_of_struct (k := .u32) (zs := [4294967295, 4294967295]) Tryd.underlying92 (fun i f hf => by
    match i, hf with
    | 0, hf => cases hf; exact ⟨Tryd.underlying30, rfl, by kernel_rfl⟩
    | 1, hf => cases hf; exact ⟨Tryd.underlying30, rfl, by kernel_rfl⟩) (by kernel_rfl) hd0
  intro j v hv
  have := World.var?_cell hg0 hv0 j
  rw [Nat.zero_add, this, ← Array.getElem?_toList, hc]
  exact hv
/-- the reserved words -/
def cssL : List (Lit × DataW Unit) := [(.string [100, 101, 102, 97, 117, 108, 116], .lit (.bool true)), (.string [105, 110, 104, 101, 114, 105, 116], .lit (.bool true)), (.string [105, 110, 105, 116, 105, 97, 108], .lit (.bool true)), (.string [114, 101, 118, 101, 114, 116], .lit (.bool true)), (.string [114, 101, 118, 101, 114, 116, 45, 108, 97, 121, 101, 114], .lit (.bool true)), (.string [117, 110, 115, 101, 116], .lit (.bool true))]
def cssG : Nat := 0
/-- what does not turn below B -/
def EV (B : Nat) (w : World) : Prop := ∃ wb, wb.heap.size = B ∧ (TL wb ∧ MV cssG (.map cssL) wb ∧ IR wb) ∧ Below B wb w
theorem EV.size {B : Nat} {w : World} (h : EV B w) : B ≤ w.heap.size := by
  obtain ⟨wb, rfl, _, hb⟩ := h
  exact hb.size
theorem EV.below {B : Nat} {w w' : World} (h : EV B w) (hb : Below B w w') : EV B w' := by
  obtain ⟨wb, h1, h2, h3⟩ := h
  exact ⟨wb, h1, h2, h3.trans hb⟩
theorem EV.keep {B : Nat} {w w' : World} (h : EV B w) (hb : Below w.heap.size w w') : EV B w' := h.below (hb.mono h.size)
theorem EV.tl {B : Nat} {w : World} (h : EV B w) : TL w := by
  obtain ⟨wb, rfl, h2, h3⟩ := h
  exact h2.1.keep h3
theorem EV.mv {B : Nat} {w : World} (h : EV B w) : MV cssG (.map cssL) w := by
  obtain ⟨wb, rfl, h2, h3⟩ := h
  exact h2.2.1.keep h3
theorem EV.ir {B : Nat} {w : World} (h : EV B w) : IR w := by
  obtain ⟨wb, rfl, h2, h3⟩ := h
  exact rg_below h3 (rg_lt h2.2.2 (by simp)) h2.2.2
/-- a parser and a row of tokens -/
structure ST (B : Nat) (X : Nat → Prop) (p : Nat) (ml : Bool) (g : Nat) (z : List TK × SY) (w : World) : Prop where
  ev : EV B w
  ps : PS w X p ml z.2
  tb : TB w g z.1
  bg : B ≤ g
  xs : ∀ i, X i → B ≤ i ∧ i < w.heap.size ∧ i ≠ g
/-- only the parser's blocks and the tokens have turned -/
def GO (X : Nat → Prop) (g : Nat) (w : World) (X' : Nat → Prop) (w' : World) : Prop := Off (fun i => X i ∨ i = g) w w' ∧ ∀ i, X' i → X i ∨ w.heap.size ≤ i
section
variable {B p g : Nat} {X X' X'' : Nat → Prop} {ml : Bool} {z : List TK × SY} {w w' w'' : World}
theorem ST.keep (h : ST B X p ml g z w) (hb : Below w.heap.size w w') : ST B X p ml g z w' :=
  ⟨h.ev.keep hb, h.ps.keep hb, Bk.keep h.tb hb, h.bg, fun i hi => ⟨(h.xs i hi).1, Nat.lt_of_lt_of_le (h.xs i hi).2.1 hb.size, (h.xs i hi).2.2⟩⟩
theorem GO.refl : GO X g w X w := ⟨Off.refl _ _, fun _ h => .inl h⟩
theorem GO.keep (hb : Below w.heap.size w w') : GO X g w X w' := ⟨Off.of_below hb, fun _ h => .inl h⟩
theorem GO.trans (h : GO X g w X' w') (h2 : GO X' g w' X'' w'') : GO X g w X'' w'' := by
  have hs := h.1.2.2.2.1
  refine ⟨h.1.trans h2.1 fun i hi => ?_, fun i hi => ?_⟩
  · rcases hi with hi | hi
    · rcases h.2 i hi with h1 | h1
      · exact .inl (.inl h1)
      · exact .inr h1
    · exact .inl (.inr hi)
  · rcases h2.2 i hi with h1 | h1
    · exact h.2 i h1
    · exact .inr (Nat.le_trans hs h1)
theorem GO.below (h : GO X g w X' w') (hs : ST B X p ml g z w) : Below B w w' := h.1.below (fun i hi => by
  rcases hi with hi | hi
  · exact (hs.xs i hi).1
  · rw [hi]; exact hs.bg) hs.ev.size
end
end Go.Proofs.YtkphnplmjpjbjaaDoor.Sy
