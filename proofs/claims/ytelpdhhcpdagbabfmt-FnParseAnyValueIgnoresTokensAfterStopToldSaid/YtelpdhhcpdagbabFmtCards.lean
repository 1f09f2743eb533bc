/-
  DERIVED. GIVEN WITH THE SEED: THE CARDS: each row of YtelpdhhcpdagbabFmtRows.lean that lists a variable, with what it lists TIED to the program's text (the seventh form; the later family's looks); each row that meets fmt, with fmt's text TOLD by the authors' own Lean function (tested against real Go, not proved from fmt's source: count such statements apart). THE CARD IS WHAT COUNTS. Prove the row's statement (the work); the ties are given (YtelpdhhcpdagbabFmtTie.lean); close each card by the builder's one call (the guide's Derived/Test/ToyasCard.lean, 'card_holds'). Laid BY PROGRAM, IN A SANDBOX (cutbox-door.mjs). By AI agents, Wed Nov 11 2026. No macro, syntax, notation, axiom, sorry.
-/
import Derived.Test.YtelpdhhcpdagbabFmtRows
import GoSem.ClaimSeven
namespace Go.Proofs.YtelpdhhcpdagbabFmt
namespace Rows

/-- THE TOLD AND TIED CARD OF 'n011_99.FnParseAnyValueIgnoresTokensAfterStop'. -/
def fnParseAnyValueIgnoresTokensAfterStopCard : Claim7 := { stood := { row := fnParseAnyValueIgnoresTokensAfterStopRow, standIns := [], harness := (true, "bf9dbd3bc4a651ddbcde46aa7ceacecc8d6d73c3f967a4148e2aa0804726f901"), looks := false }, told := true, laidByText := true, laidKinds := [.data, .data, .pinned], laidTests := true, laidLooks := .later, goes := false }
def FnParseAnyValueIgnoresTokensAfterStopToldSaid : Prop := Claim7.holds Tryf.pinned (.plain (OpenSpec.ofChange fnParseAnyValueIgnoresTokensAfterStopSpec)) fnParseAnyValueIgnoresTokensAfterStopCard
/-- ITS FALSE NEIGHBOUR. Refute it at one input. -/
def FnParseAnyValueIgnoresTokensAfterStopToldWrongFalsely : Prop := Claim7.holds Tryf.pinned (.plain (OpenSpec.ofChange fnParseAnyValueIgnoresTokensAfterStopWrong)) fnParseAnyValueIgnoresTokensAfterStopCard
end Rows
end Go.Proofs.YtelpdhhcpdagbabFmt
