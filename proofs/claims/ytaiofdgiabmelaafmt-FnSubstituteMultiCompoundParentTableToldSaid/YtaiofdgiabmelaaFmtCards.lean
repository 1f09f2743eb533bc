/-
  DERIVED. GIVEN WITH THE SEED: THE CARDS: each row of YtaiofdgiabmelaaFmtRows.lean that lists a variable, with what it lists TIED to the program's text (the seventh form; the later family's looks); each row that meets fmt, with fmt's text TOLD by the authors' own Lean function (tested against real Go, not proved from fmt's source: count such statements apart). THE CARD IS WHAT COUNTS. Prove the row's statement (the work); the ties are given (YtaiofdgiabmelaaFmtTie.lean); close each card by the builder's one call (the guide's Derived/Test/ToyasCard.lean, 'card_holds'). Laid BY PROGRAM, IN A SANDBOX (cutbox-door.mjs). By AI agents, Wed Nov 11 2026. No macro, syntax, notation, axiom, sorry.
-/
import Derived.Test.YtaiofdgiabmelaaFmtRows
import GoSem.ClaimSeven
namespace Go.Proofs.YtaiofdgiabmelaaFmt
namespace Rows

/-- THE TOLD AND TIED CARD OF 'n011_82.FnSubstituteMultiCompoundParentTable'. -/
def fnSubstituteMultiCompoundParentTableCard : Claim7 := { stood := { row := fnSubstituteMultiCompoundParentTableRow, standIns := [], harness := (true, "9666cbf4caf8a08e9e7f8a851a6f8a56a9f8d8c7c3a272bfd97cac63419e3008"), looks := true }, told := true, laidByText := true, laidKinds := [.data, .pinned], laidTests := true, laidLooks := .later, goes := false }
def FnSubstituteMultiCompoundParentTableToldSaid : Prop := Claim7.holds Tryf.pinned (.plain (OpenSpec.ofChange fnSubstituteMultiCompoundParentTableSpec)) fnSubstituteMultiCompoundParentTableCard
/-- ITS FALSE NEIGHBOUR. Refute it at one input. -/
def FnSubstituteMultiCompoundParentTableToldWrongFalsely : Prop := Claim7.holds Tryf.pinned (.plain (OpenSpec.ofChange fnSubstituteMultiCompoundParentTableWrong)) fnSubstituteMultiCompoundParentTableCard
end Rows
end Go.Proofs.YtaiofdgiabmelaaFmt
