/-
  strings.ToLower under the laid tables; DimensionUnit, DimensionUnitIsSafeLength.
-/
import Derived.Test.YtibdmppjmaacpaaDoorSl
import Derived.Test.YtibdmppjmaacpaaDoorSx
import Derived.Lib.LaidCase
import Derived.Lib.LaidU8
import Derived.Lib.Strings
import Derived.MakeChecks
namespace Go.Proofs.YtibdmppjmaacpaaDoor.Iu
open Go.ChangeShapes Go.WideShapes Go.ChangeAt Go.RowKit Rg
set_option linter.unusedVariables false
/-- the tables that strings.ToLower reads -/
def TL (w : World) : Prop := Lib.CaseVar (Tryd.lays159_ren.g 13) Lib.caseA w ∧ Lib.Utf8Tabs (Tryd.lays159_ren.g 3) (Tryd.lays159_ren.g 4) w
theorem TL.keep {w w' : World} (h : TL w) (hb : Below w.heap.size w w') : TL w' := ⟨Lib.CaseVar_below h.1 hb, Proofs.Utf8Tabs_below h.2 hb⟩
theorem TL_of {l : List (String × DataW Unit)} {w : World} (h : laidMetH Tryd.prog l w) (hp : (l.all fun x => x.2.handleName?.isNone) = true) (h1 : ("unicode.CaseRanges", Lib.caseData) ∈ l) (h2 : ("unicode/utf8.first", Lib.firstData) ∈ l) (h3 : ("unicode/utf8.acceptRanges", Lib.acceptData) ∈ l) : TL w := by
  rw [MakeChecks.laidMetH_plain _ _ _ hp] at h
  exact ⟨Proofs.caseVar_of_reads (ρ := Tryd.lays159_ren) { Tryd.lays159 with } Tryd.lays159.t206 ⟨by kernel_rfl, by kernel_rfl, by kernel_rfl, by kernel_rfl, by kernel_rfl, by kernel_rfl⟩ (Lib.laidMet.reads h h1),
    Proofs.utf8Tabs_of_reads (ρ := Tryd.lays159_ren) { Tryd.lays159 with } ⟨by kernel_rfl, by kernel_rfl, by kernel_rfl, by kernel_rfl, by kernel_rfl, by kernel_rfl, by kernel_rfl⟩ (Lib.laidMet.reads h h2) (Lib.laidMet.reads h h3)⟩
def lowB (s : ByteArray) : ByteArray := ⟨(Lib.toLowerD s.data.toList).toArray⟩
theorem low_any (s : ByteArray) (w : World) (hs : (s.size : Int) ≤ 1048576) (h : TL w) :
    Calls Tryd.prog 12 #[.string s] w fun e w' => e = .returned (.string (lowB s)) ∧ Below w.heap.size w w' := Tryd.strings_ToLower_any s w (by omega) h.1 h.2
abbrev tok (K : Int) (T : ByteArray) (o : Nat) : Value := .agg #[.pointer none, .string T, .int .i32 0, .int .u32 0, .int .u16 o, .int .u8 K, .int .u8 0]
set_option maxRecDepth 100000 in
set_option maxHeartbeats 1000000 in
theorem du_any (K : Int) (T : ByteArray) (o : Nat) (w : World) (hT : (T.size : Int) ≤ 1048576) (ho : (o : Int) ≤ T.size) :
    Calls Tryd.prog 11 #[.agg #[.pointer none, .string T, .int .i32 0, .int .u32 0, .int .u16 o, .int .u8 K, .int .u8 0]] w fun e w' => e = .returned (.string (T.extract o T.size)) ∧ Below w.heap.size w w' := by
  have q0 : (0 : Int) ≤ o := by omega
  go_enter Tryd.func11, Tryd.ntmps11
  go_wp2
  all_goals go_ret
  all_goals exact ⟨rfl, (Below.refl _ _).alloc (Nat.le_refl _) _⟩
end Go.Proofs.YtibdmppjmaacpaaDoor.Iu
