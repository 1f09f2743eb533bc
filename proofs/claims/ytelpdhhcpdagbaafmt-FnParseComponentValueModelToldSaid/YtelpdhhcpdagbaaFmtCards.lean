/-
  DERIVED. GIVEN WITH THE SEED: THE CARDS: each row of YtelpdhhcpdagbaaFmtRows.lean that lists a variable, with what it lists TIED to the program's text (the seventh form; the later family's looks); each row that meets fmt, with fmt's text TOLD by the authors' own Lean function (tested against real Go, not proved from fmt's source: count such statements apart). THE CARD IS WHAT COUNTS. Prove the row's statement (the work); the ties are given (YtelpdhhcpdagbaaFmtTie.lean); close each card by the builder's one call (the guide's Derived/Test/ToyasCard.lean, 'card_holds'). Laid BY PROGRAM, IN A SANDBOX (cutbox-door.mjs). By AI agents, Wed Nov 11 2026. No macro, syntax, notation, axiom, sorry.
-/
import Derived.Test.YtelpdhhcpdagbaaFmtRows
import GoSem.ClaimSeven
namespace Go.Proofs.YtelpdhhcpdagbaaFmt
namespace Rows

/-- THE TOLD AND TIED CARD OF 'n011_198.FnParseComponentValueModel'. -/
def fnParseComponentValueModelCard : Claim7 := { stood := { row := fnParseComponentValueModelRow, standIns := [], harness := (true, "49883dfe26d801aa0d50d925c5129a2955f34d188d073caa4e2dd419577fca8e"), looks := false }, told := true, laidByText := true, laidKinds := [.data, .data, .pinned], laidTests := true, laidLooks := .later, goes := false }
def FnParseComponentValueModelToldSaid : Prop := Claim7.holds Tryf.pinned (.plain (OpenSpec.ofChange fnParseComponentValueModelSpec)) fnParseComponentValueModelCard
/-- ITS FALSE NEIGHBOUR. Refute it at one input. -/
def FnParseComponentValueModelToldWrongFalsely : Prop := Claim7.holds Tryf.pinned (.plain (OpenSpec.ofChange fnParseComponentValueModelWrong)) fnParseComponentValueModelCard
end Rows
end Go.Proofs.YtelpdhhcpdagbaaFmt
